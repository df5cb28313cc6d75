import JvmDerived
import JvmDerived.Pilot.@@N@@Statement
import JvmDerived.Pilot.@@N@@Code
set_option linter.unusedVariables false
set_option linter.unusedSimpArgs false
namespace Jvm.RoadKit
open Sem ClassFile Op Lib Jvm.Stand Jvm.Free Jvm.LawKit
section New
variable {p : Program} {l : Launch} {e : Env} {R : Room} {s : State} {m : MethodId} {args : Array Value} {below : List Frame} {meth : Method} {c : Code} {T : State} {locs : List Loc} {cells slots : Nat}
theorem retI (X : Stand p l e R s m args below meth c T locs cells slots) (hx : p.tables.exec = Jvm.exec) {pc : Nat} {Ls : Array Slot} {z : Int32} {rest : List Value} (hret : meth.sig.returnType = some .int) (hd : decode c.code pc = .ok (.ireturn, 1)) {fs : List Frame}
    (hl : ∀ (f : JFrame) (acts : List Action), f.method = m → f.locked = none → f.entered = [] → (doReturn e (T.setTop f) acts (some (.int z))).1 = T.setFrames fs) : Steps p.tables e below (T.setTop (mkF m pc Ls (.int z :: rest))) (T.setFrames fs) := by
  have hm' : T.vm.method? m = some meth := X.method'
  have hn : narrow .int (.int z) = .int z := rfl
  show Steps p.tables e below (T.setTop { method := m, pc := pc, locals := Ls, stack := _ :: rest, locked := none }) _
  jvm_step X.here [X.here.top, hx, hd, hm', hret, hn]
  first | (intro acts; rw [hl _ acts rfl rfl rfl]) | rw [hl _ _ rfl rfl rfl]
  exact Steps.refl _
end New
end Jvm.RoadKit
namespace Jvm.Pilot.@@N@@
open Jvm Jvm.ClassFile Sem Op Lib Jvm.Free Jvm.Stand Jvm.LawKit Jvm.RoadKit Bundle Jvm.Pilot.@@N@@.Jvm.D
/-- what is still to come: from the frame g at T the run comes to an end that Q takes -/
def own_WP (p : Program) (e : Env) (below : List Frame) (Q : Outcome → State → Prop) (T : State) (g : JFrame) : Prop :=
  ∃ s₂ o, Steps p.tables e below (T.setTop g) s₂ ∧ s₂.status = .running ∧ Ended s₂ below o ∧ Q o s₂
def own_Q (s : State) (P : Option Value → Heap → List Loc → Prop) (C S : Nat) (o : Outcome) (U : State) : Prop :=
  ∃ v L, o = .returned v ∧ P v U.heap L ∧ FrameEnd s o U L C S
def own_Ctx (p : Program) (s : State) (m : MethodId) (meth : Method) (c : Code) (Z : State) (y : MethodName) (bytes : ByteArray) (maxL : Nat) (rt : Option FieldType) : Prop :=
  p.tables.exec = Jvm.exec ∧ Z.Warmed39 s.vm ∧ c.code = bytes ∧ c.maxLocals = maxL ∧ s.vm.findClass y.cls = some m.cls ∧ meth.name = y.name ∧ meth.sig.returnType = rt ∧ meth.locks = false
def own_Met (l : Launch) (Z : State) (y : MethodName) (bytes : ByteArray) (maxL : Nat) (rt : Option FieldType) (ws : List Jvm.Cond) (rm : Room) (as' : Array Value) (h : Heap) (P : Option Value → Heap → List Loc → Prop) : Prop :=
  MetFree l y (head1 (Jvm.Cond.code y bytes maxL rt :: ws) rm) (fun a U => a = as' ∧ Z.Warmed39 U.vm ∧ U.heap = h) (fun _ _ _ _ _ => True) (fun _ U o U' => ∃ v L, o = .returned v ∧ P v U'.heap L ∧ FrameEnd U o U' L rm.cells rm.slots)
section Own
variable {p : Program} {l : Launch} {e : Env} {R : Room} {s : State} {m : MethodId} {args : Array Value} {below : List Frame} {meth : Method} {c : Code} {T T' : State} {locs : List Loc} {cells slots : Nat} {Z : State} {a0 : Array Value} {y : MethodName} {bytes : ByteArray} {maxL : Nat} {rt : Option FieldType} {P : Option Value → Heap → List Loc → Prop} {Q : Outcome → State → Prop}
theorem own_go {g g' : JFrame} (st : ∀ t, Steps p.tables e below (T'.setTop g') t → Steps p.tables e below (T.setTop g) t) (h : own_WP p e below Q T' g') : own_WP p e below Q T g := by
  obtain ⟨s₂, o, h1, h2⟩ := h
  exact ⟨s₂, o, st _ h1, h2⟩
theorem own_body {ws : List Jvm.Cond} {rm : Room} {as' : Array Value} {h : Heap} (hp : plainFor y = true)
    (body : ∀ p e s m below meth c s₁, own_Ctx p s m meth c Z y bytes maxL rt → Stand p l e rm s m as' below meth c s₁ [] 0 0 → s₁.heap = h → own_WP p e below (own_Q s P rm.cells rm.slots) s₁ (entryFrame m as' maxL)) :
    own_Met l Z y bytes maxL rt ws rm as' h P := by
  refine MetFree.of_bodySF hp hisR ?_
  intro p e s m args below meth c s₁ Bd hml0 hP hK
  obtain ⟨rfl, hZ, hh⟩ := hP
  exact body p e s m below meth c s₁ ⟨Bd.exec, hZ, Bd.bytes, hml0, findClass_of_methodNamed Bd.named, (name_of_methodNamed Bd.named Bd.method).1, Bd.returns, Bd.notSynchronized⟩ (Stand.of_body Bd) (by rw [← hh, Bd.state]; rfl)
theorem own_cast {g g' : JFrame} (q : g = g') (k : own_WP p e below Q T g') : own_WP p e below Q T g := q ▸ k
theorem own_retI (X : Stand p l e R s m args below meth c T locs cells slots) (C : own_Ctx p s m meth c Z y bytes maxL (some .int)) {pc : Nat} {Ls : Array Slot} {z : Int32} {rest : List Value} {CC SS : Nat}
    (hd : decode c.code pc = .ok (.ireturn, 1)) (hP : P (some (.int z)) T.heap locs) (hc : cells ≤ CC) (hs : slots ≤ SS) : own_WP p e below (own_Q s P CC SS) T (mkF m pc Ls (.int z :: rest)) := by
  obtain ⟨hx, -, -, -, -, -, hr, hlk⟩ := C
  obtain ⟨fs, hrr, hrun, hended, hW, hsame⟩ := X.leave (v := some (.int z)) (fun h => by rw [hr] at h; cases h) hlk
  exact ⟨_, _, retI X hx hr hd hrr, hrun, hended, _, _, rfl, hP, ⟨_, rfl⟩, hW, hsame.mono hc hs⟩
theorem own_retN {t : FieldType} (X : Stand p l e R s m args below meth c T locs cells slots) (C : own_Ctx p s m meth c Z y bytes maxL (some t)) (ht : t = .boolean ∨ t = .byte ∨ t = .char ∨ t = .short) {pc : Nat} {Ls : Array Slot} {z : Int32} {rest : List Value} {CC SS : Nat}
    (hd : decode c.code pc = .ok (.ireturn, 1)) (hP : P (some (.int (nar t z))) T.heap locs) (hc : cells ≤ CC) (hs : slots ≤ SS) : own_WP p e below (own_Q s P CC SS) T (mkF m pc Ls (.int z :: rest)) := by
  obtain ⟨hx, -, -, -, -, -, hr, hlk⟩ := C
  obtain ⟨fs, hrr, hrun, hended, hW, hsame⟩ := X.leave (v := some (.int (nar t z))) (fun h => by rw [hr] at h; cases h) hlk
  exact ⟨_, _, retN X hx hr ht hd hrr, hrun, hended, _, _, rfl, hP, ⟨_, rfl⟩, hW, hsame.mono hc hs⟩
theorem own_retL (X : Stand p l e R s m args below meth c T locs cells slots) (C : own_Ctx p s m meth c Z y bytes maxL (some .long)) {pc : Nat} {Ls : Array Slot} {z : Int64} {CC SS : Nat}
    (hd : decode c.code pc = .ok (.lreturn, 1)) (hP : P (some (.long z)) T.heap locs) (hc : cells ≤ CC) (hs : slots ≤ SS) : own_WP p e below (own_Q s P CC SS) T (mkF m pc Ls [.long z]) := by
  obtain ⟨hx, -, -, -, -, -, hr, hlk⟩ := C
  obtain ⟨fs, hrr, hrun, hended, hW, hsame⟩ := X.leave (v := some (.long z)) (fun h => by rw [hr] at h; cases h) hlk
  exact ⟨_, _, X.lreturnOut hx hr hd hrr, hrun, hended, _, _, rfl, hP, ⟨_, rfl⟩, hW, hsame.mono hc hs⟩
theorem own_retV (X : Stand p l e R s m args below meth c T locs cells slots) (C : own_Ctx p s m meth c Z y bytes maxL none) {pc : Nat} {Ls : Array Slot} {CC SS : Nat}
    (hd : decode c.code pc = .ok (.return_, 1)) (hP : P none T.heap locs) (hc : cells ≤ CC) (hs : slots ≤ SS) : own_WP p e below (own_Q s P CC SS) T (mkF m pc Ls []) := by
  obtain ⟨hx, -, -, -, -, -, hr, hlk⟩ := C
  obtain ⟨fs, hrr, hrun, hended, hW, hsame⟩ := X.leave (v := none) (fun _ => rfl) hlk
  exact ⟨_, _, X.returnOut hx hr hd hrr, hrun, hended, _, _, rfl, hP, ⟨_, rfl⟩, hW, hsame.mono hc hs⟩
theorem own_retA {t : FieldType} (X : Stand p l e R s m args below meth c T locs cells slots) (C : own_Ctx p s m meth c Z y bytes maxL (some t)) (ht : t.isReference = true) {pc : Nat} {Ls : Array Slot} {a : Addr} {CC SS : Nat}
    (hd : decode c.code pc = .ok (.areturn, 1)) (hP : P (some (.ref a)) T.heap locs) (hc : cells ≤ CC) (hs : slots ≤ SS) : own_WP p e below (own_Q s P CC SS) T (mkF m pc Ls [.ref a]) := by
  obtain ⟨hx, -, -, -, -, -, hr, hlk⟩ := C
  obtain ⟨fs, hrr, hrun, hended, hW, hsame⟩ := X.leave (v := some (.ref a)) (fun h => by rw [hr] at h; cases h) hlk
  exact ⟨_, _, X.areturnOut hx rfl hr ht hd hrr, hrun, hended, _, _, rfl, hP, ⟨_, rfl⟩, hW, hsame.mono hc hs⟩
/-- a static call by the callee's contract -/
theorem own_callS (X : Stand p l e R s m args below meth c T locs cells slots) (C : own_Ctx p s m meth c Z y bytes maxL rt) {idx : Nat} {y' : MethodName} {bytes' : ByteArray} {maxL' : Nat} {rt' : Option FieldType} {rm' : Room} {argsL rest : List Value} {h : Heap} {P' : Option Value → Heap → List Loc → Prop}
    (hM : own_Met l Z y' bytes' maxL' rt' [] rm' argsL.toArray h P') (w1 : (Cond.methodLink y.cls idx y').before a0 Z = true) (w2 : (Cond.static y').before a0 Z = true) (w3 : (Cond.initialized y'.cls).before a0 Z = true) (w4 : (Cond.code y' bytes' maxL' rt').before a0 Z = true)
    (hy : y'.cls ≠ "java/lang/invoke/MethodHandle" ∧ y'.cls ≠ "java/lang/invoke/VarHandle") (eT : T.heap = h) {W : Nat} {pc : Nat} {Ls : Array Slot} (hsz : Ls.size = maxL) (hlen : ∀ sig, parseMethodDescriptor y'.desc = some sig → argsL.length = sig.parameters.length)
    {stk : List Value} (hst : stk = argsL.reverse ++ rest) (hW : (rest.map fun v => v.category).sum ≤ W) (hd : decode c.code pc = .ok (.invokestatic idx, 3))
    (hf : rm'.frames + 1 ≤ R.frames) (hl : W + (maxL' + 11) + rm'.locals ≤ R.locals) (hc : cells + rm'.cells ≤ R.cells) (hs : slots + rm'.slots ≤ R.slots) :
    ∃ T' v L, Stand p l e R s m args below meth c T' (locs ++ L) (cells + rm'.cells) (slots + rm'.slots) ∧ P' v T'.heap L ∧ ∀ t, Steps p.tables e below (T'.setTop (mkF m (pc + 3) Ls (v.toList ++ rest))) t → Steps p.tables e below (T.setTop (mkF m pc Ls stk)) t := by
  obtain ⟨hx, hZ, hby, hml, hown, hnm, hr, hlk⟩ := C
  obtain ⟨v, _, ⟨T', L', k', n'⟩, -, X', ⟨L, hQ, hl', hk', hn'⟩, st⟩ := Jvm.LawKit.callS X hx (y := y') hown (mvT hZ w1) (mvT hZ w2) (mvT hZ w3) (mvT hZ w4) hy (backOf (W := W) hM hZ w4 w3 hf hl) (g := mkF m pc Ls stk) rfl (by rw [hml]; exact hsz) (argsL := argsL) (rest := rest) hlen hst (by show 2 * 0 + _ ≤ _; omega) hd (fun _ _ => ⟨rfl, eT, hc, hs⟩)
  dsimp only [Pt.U, Pt.locs, Pt.cells, Pt.slots] at X' hl' hk' hn' st hQ
  subst hl' hk' hn'
  exact ⟨T', v, L, X', hQ, st⟩
/-- a constructor by its contract -/
theorem own_callN (X : Stand p l e R s m args below meth c T locs cells slots) (C : own_Ctx p s m meth c Z y bytes maxL rt) {idx : Nat} {y' : MethodName} {bytes' : ByteArray} {maxL' : Nat} {rm' : Room} {a : Addr} {argsL rest : List Value} {h : Heap} {P' : Option Value → Heap → List Loc → Prop}
    (hM : own_Met l Z y' bytes' maxL' none [] rm' (.ref a :: argsL).toArray h P') (hyn : y'.name = "<init>") (w1 : (Cond.methodLink y.cls idx y').before a0 Z = true) (w2 : (Cond.instanceMethod y').before a0 Z = true) (w3 : (Cond.initialized y'.cls).before a0 Z = true) (w4 : (Cond.code y' bytes' maxL' none).before a0 Z = true)
    (hy : y'.cls ≠ "java/lang/invoke/MethodHandle" ∧ y'.cls ≠ "java/lang/invoke/VarHandle") (eT : T.heap = h) {W : Nat} {pc : Nat} {Ls : Array Slot} (hsz : Ls.size = maxL) (hlen : ∀ sig, parseMethodDescriptor y'.desc = some sig → argsL.length = sig.parameters.length)
    {stk : List Value} (hst : stk = argsL.reverse ++ .ref a :: rest) (hW : (rest.map fun v => v.category).sum ≤ W) (hd : decode c.code pc = .ok (.invokespecial idx, 3))
    (hf : rm'.frames + 1 ≤ R.frames) (hl : W + (maxL' + 11) + rm'.locals ≤ R.locals) (hc : cells + rm'.cells ≤ R.cells) (hs : slots + rm'.slots ≤ R.slots) :
    ∃ T' v L, Stand p l e R s m args below meth c T' (locs ++ L) (cells + rm'.cells) (slots + rm'.slots) ∧ P' v T'.heap L ∧ ∀ t, Steps p.tables e below (T'.setTop (mkF m (pc + 3) Ls (v.toList ++ rest))) t → Steps p.tables e below (T.setTop (mkF m pc Ls stk)) t := by
  obtain ⟨hx, hZ, hby, hml, hown, hnm, hr, hlk⟩ := C
  obtain ⟨v, _, ⟨T', L', k', n'⟩, -, X', ⟨L, hQ, hl', hk', hn'⟩, st⟩ := X.specialBack hx (y := y') hyn hown (mvT hZ w1) (mvT hZ w2) (mvT hZ w4) hy (backOf (W := W) hM hZ w4 w3 hf hl) (g := mkF m pc Ls stk) rfl (by rw [hml]; exact hsz) (Steps.refl _) (a := a) (argsL := argsL) (rest := rest) hlen hst (by show 2 * 0 + _ ≤ _; omega) hd (fun _ _ => ⟨rfl, eT, hc, hs⟩)
  dsimp only [Pt.U, Pt.locs, Pt.cells, Pt.slots] at X' hl' hk' hn' st hQ
  subst hl' hk' hn'
  exact ⟨T', v, L, X', hQ, fun t k => st.trans k⟩
/-- an instance method by the contract of the body that is selected (the class that declares it is the receiver's own) -/
theorem own_callV (X : Stand p l e R s m args below meth c T locs cells slots) (C : own_Ctx p s m meth c Z y bytes maxL rt) {idx : Nat} {y' : MethodName} {bytes' : ByteArray} {maxL' : Nat} {rt' : Option FieldType} {rm' : Room} {a : Addr} {argsL rest : List Value} {h : Heap} {P' : Option Value → Heap → List Loc → Prop}
    (hM : own_Met l Z y' bytes' maxL' rt' [] rm' (.ref a :: argsL).toArray h P') (w1 : (Cond.methodLink y.cls idx y').before a0 Z = true) (wd : (Cond.declares y').before a0 Z = true) (wsel : (Cond.selects y'.cls y' y').before a0 Z = true) (w2 : (Cond.instanceMethod y').before a0 Z = true) (w3 : (Cond.initialized y'.cls).before a0 Z = true) (w4 : (Cond.code y' bytes' maxL' rt').before a0 Z = true)
    (hy : y'.cls ≠ "java/lang/invoke/MethodHandle" ∧ y'.cls ≠ "java/lang/invoke/VarHandle") (eT : T.heap = h) (E : Exa Z h a y'.cls) {W : Nat} {pc : Nat} {Ls : Array Slot} (hsz : Ls.size = maxL) (hlen : ∀ sig, parseMethodDescriptor y'.desc = some sig → argsL.length = sig.parameters.length)
    {stk : List Value} (hst : stk = argsL.reverse ++ .ref a :: rest) (hW : (rest.map fun v => v.category).sum ≤ W) (hd : decode c.code pc = .ok (.invokevirtual idx, 3))
    (hf : rm'.frames + 1 ≤ R.frames) (hl : W + (maxL' + 11) + rm'.locals ≤ R.locals) (hc : cells + rm'.cells ≤ R.cells) (hs : slots + rm'.slots ≤ R.slots) :
    ∃ T' v L, Stand p l e R s m args below meth c T' (locs ++ L) (cells + rm'.cells) (slots + rm'.slots) ∧ P' v T'.heap L ∧ ∀ t, Steps p.tables e below (T'.setTop (mkF m (pc + 3) Ls (v.toList ++ rest))) t → Steps p.tables e below (T.setTop (mkF m pc Ls stk)) t := by
  obtain ⟨hx, hZ, hby, hml, hown, hnm, hr, hlk⟩ := C
  obtain ⟨cq, kq, qa, qb, qc⟩ := isOf hZ eT E
  obtain ⟨v, _, ⟨T', L', k', n'⟩, -, X', ⟨L, hQ, hl', hk', hn'⟩, st⟩ := X.virtualBack hx (y := y') (z := y') hown (mvT hZ w1) (mvT hZ wd) (notFace_of_selects (args := #[]) (mvT hZ wsel)) (mvT hZ wsel) (mvT hZ w2) hy (backOf (W := W) hM hZ w4 w3 hf hl) qa qc (g := mkF m pc Ls stk) rfl (by rw [hml]; exact hsz) (Steps.refl _) (argsL := argsL) (rest := rest) hlen hst (by show 2 * 0 + _ ≤ _; omega) hd (fun _ _ => ⟨rfl, eT, hc, hs⟩)
  dsimp only [Pt.U, Pt.locs, Pt.cells, Pt.slots] at X' hl' hk' hn' st hQ
  subst hl' hk' hn'
  exact ⟨T', v, L, X', hQ, fun t k => st.trans k⟩
end Own
end Jvm.Pilot.@@N@@
namespace Jvm.Pilot.@@N@@
open Jvm Jvm.ClassFile Sem Op Lib Jvm.Free Jvm.Stand Jvm.LawKit Jvm.RoadKit Bundle Jvm.Pilot.@@N@@.Jvm.D
/-- the array at b holds just vs -/
def own_A (Z : State) (h : Heap) (b : Addr) (ty : FieldType) (vs : List Value) : Prop := Exa Z h b ("[" ++ ty.toString) ∧ ∃ c : Cell, Arr Z h b c ty ∧ c.slots = vs.toArray ∧ vs.length < 2147483648 ∧ ∀ v ∈ vs, fits ty v = true
def own_AI (Z : State) (h : Heap) (b : Addr) (ty : FieldType) (vs : List Int32) : Prop := own_A Z h b ty (vs.map Value.int)
def own_AJ (Z : State) (h : Heap) (b : Addr) (ty : FieldType) (vs : List Int64) : Prop := own_A Z h b ty (vs.map Value.long)
def own_get {α : Type} (vs : List α) (j : Int32) : Option α := if j < 0 then none else vs[j.toNatClampNeg]?
def own_set {α : Type} (vs : List α) (j : Int32) (x : α) : Option (List α) := if j < 0 then none else if j.toNatClampNeg < vs.length then some (vs.set j.toNatClampNeg x) else none
theorem own_bind {α β : Type} {o : Option α} {f : α → Option β} {r : β} (h : o.bind f = some r) : ∃ v, o = some v ∧ f v = some r := by
  cases o with
  | none => cases h
  | some v => exact ⟨v, rfl, h⟩
def own_let {α β : Type} (a : α) (f : α → β) : β := f a
theorem own_letE {α β : Type} {a : α} {f : α → β} {r : β} (h : own_let a f = r) : f a = r := h
theorem own_ne {a b : Nat} (h : a < b ∨ b < a) : @Ne Addr a b := by
  intro e
  rcases h with h | h
  · exact Nat.lt_irrefl _ (e ▸ h)
  · exact Nat.lt_irrefl _ (e ▸ h)
theorem own_cap {n : Int32} {c : Int} {k : Nat} (hk : c = (k : Int)) (h : ¬ c < n.toInt) : n.toNatClampNeg ≤ k := by
  have q : n.toNatClampNeg = n.toInt.toNat := rfl
  rw [q]; omega
section Own
variable {p : Program} {l : Launch} {e : Env} {R : Room} {s : State} {m : MethodId} {args : Array Value} {below : List Frame} {meth : Method} {c : Code} {T T' : State} {locs : List Loc} {cells slots : Nat} {Z : State} {a0 : Array Value} {y : MethodName} {bytes : ByteArray} {maxL : Nat} {rt : Option FieldType} {h h' : Heap} {a b : Addr} {ty : FieldType}
theorem own_A.lt {vs : List Value} (F : own_A Z h b ty vs) : b < h.size := by obtain ⟨E, c, A, -⟩ := F; exact A.lt
theorem own_A.ext {vs : List Value} (F : own_A Z h b ty vs) (E : Ext h h') : own_A Z h' b ty vs := by obtain ⟨Q, c, A, r⟩ := F; exact ⟨Q.ext E, c, A.ext E, r⟩
theorem own_A.other {vs : List Value} {sl : Nat} {v : Value} (F : own_A Z h b ty vs) (W : Wr h h' a sl v) (q : b ≠ a) : own_A Z h' b ty vs := by obtain ⟨Q, c, A, r⟩ := F; exact ⟨Q.wr W, c, A.other W q, r⟩
theorem own_A.keep {vs : List Value} {ws : List Addr} (F : own_A Z h b ty vs) (K : Keep h h' ws) (q : b ∉ ws) : own_A Z h' b ty vs := by obtain ⟨Q, c, A, r⟩ := F; exact ⟨Q.keep K, c, ⟨K.2.1 b c A.1 q, A.2⟩, r⟩
theorem own_A.set {vs : List Value} {j : Nat} {v : Value} (F : own_A Z h b ty vs) (W : Wr h h' b j v) (hv : fits ty v = true) : own_A Z h' b ty (vs.set j v) := by
  obtain ⟨Q, c, A, r1, r2, r3⟩ := F
  refine ⟨Q.wr W, _, A.same W, ?_, by simpa using r2, ?_⟩
  · show c.slots.setIfInBounds j v = _
    rw [r1]; simp
  · intro u hu
    rcases List.mem_or_eq_of_mem_set hu with q | q
    · exact r3 u q
    · rw [q]; exact hv
theorem own_AI.lt {vs : List Int32} (F : own_AI Z h b ty vs) : b < h.size := own_A.lt F
theorem own_AI.ext {vs : List Int32} (F : own_AI Z h b ty vs) (E : Ext h h') : own_AI Z h' b ty vs := own_A.ext F E
theorem own_AI.other {vs : List Int32} {sl : Nat} {v : Value} (F : own_AI Z h b ty vs) (W : Wr h h' a sl v) (q : b ≠ a) : own_AI Z h' b ty vs := own_A.other F W q
theorem own_AI.keep {vs : List Int32} {ws : List Addr} (F : own_AI Z h b ty vs) (K : Keep h h' ws) (q : b ∉ ws) : own_AI Z h' b ty vs := own_A.keep F K q
theorem own_AJ.lt {vs : List Int64} (F : own_AJ Z h b ty vs) : b < h.size := own_A.lt F
theorem own_AJ.ext {vs : List Int64} (F : own_AJ Z h b ty vs) (E : Ext h h') : own_AJ Z h' b ty vs := own_A.ext F E
theorem own_AJ.other {vs : List Int64} {sl : Nat} {v : Value} (F : own_AJ Z h b ty vs) (W : Wr h h' a sl v) (q : b ≠ a) : own_AJ Z h' b ty vs := own_A.other F W q
theorem own_AJ.keep {vs : List Int64} {ws : List Addr} (F : own_AJ Z h b ty vs) (K : Keep h h' ws) (q : b ∉ ws) : own_AJ Z h' b ty vs := own_A.keep F K q
theorem own_A.place {α : Type} {f : α → Value} {vs : List α} {j : Int32} {v : α} (F : own_A Z h b ty (vs.map f)) (g : own_get vs j = some v) : ∃ c : Cell, Arr Z h b c ty ∧ ¬ (j < 0 ∨ c.slots.size ≤ j.toNatClampNeg) ∧ c.slots[j.toNatClampNeg]? = some (f v) := by
  obtain ⟨-, c, A, r1, r2, -⟩ := F
  unfold own_get at g
  split at g
  · cases g
  · rename_i hj
    obtain ⟨hlt, hv⟩ := List.getElem?_eq_some_iff.mp g
    refine ⟨c, A, ?_, ?_⟩
    · rintro (q | q)
      · exact hj q
      · rw [r1] at q; simp at q; omega
    · rw [r1]; simp [g]
theorem own_A.room {α : Type} {f : α → Value} {vs vs' : List α} {j : Int32} {v : α} (F : own_A Z h b ty (vs.map f)) (g : own_set vs j v = some vs') : ∃ c : Cell, Arr Z h b c ty ∧ ¬ (j < 0 ∨ c.slots.size ≤ j.toNatClampNeg) ∧ vs' = vs.set j.toNatClampNeg v := by
  obtain ⟨-, c, A, r1, r2, -⟩ := F
  unfold own_set at g
  split at g
  · cases g
  · rename_i hj
    split at g
    · rename_i hlt
      refine ⟨c, A, ?_, (Option.some.inj g).symm⟩
      rintro (q | q)
      · exact hj q
      · rw [r1] at q; simp at q; omega
    · cases g
theorem own_iaload (X : Stand p l e R s m args below meth c T locs cells slots) (C : own_Ctx p s m meth c Z y bytes maxL rt) (eT : T.heap = h) {vs : List Int32} (F : own_AI Z h b .int vs) {j v : Int32} (g : own_get vs j = some v) {pc : Nat} {Ls : Array Slot} {rest : List Value} (hd : decode c.code pc = .ok (.iaload, 1)) :
    ∀ t, Steps p.tables e below (T.setTop (mkF m (pc + 1) Ls (.int v :: rest))) t → Steps p.tables e below (T.setTop (mkF m pc Ls (.int j :: .ref b :: rest))) t := by
  obtain ⟨hx, hZ, -⟩ := C
  obtain ⟨cl, A, hin, hat⟩ := own_A.place F g
  intro t k
  exact X.iaload hx (j := j) (v := .int v) (by rw [eT]; exact A.1) (State.isArrayOf_alike hZ.alike A.2.1) A.2.2 hin hat (g := mkF m pc Ls (.int j :: .ref b :: rest)) rfl rfl hd t k
theorem own_baload (X : Stand p l e R s m args below meth c T locs cells slots) (C : own_Ctx p s m meth c Z y bytes maxL rt) (eT : T.heap = h) {vs : List Int32} (F : own_AI Z h b .byte vs) {j v : Int32} (g : own_get vs j = some v) {pc : Nat} {Ls : Array Slot} {rest : List Value} (hd : decode c.code pc = .ok (.baload, 1)) :
    ∀ t, Steps p.tables e below (T.setTop (mkF m (pc + 1) Ls (.int v :: rest))) t → Steps p.tables e below (T.setTop (mkF m pc Ls (.int j :: .ref b :: rest))) t := by
  obtain ⟨hx, hZ, -⟩ := C
  obtain ⟨cl, A, hin, hat⟩ := own_A.place F g
  intro t k
  exact X.baloadBytes hx (j := j) (v := .int v) (by rw [eT]; exact A.1) (State.isArrayOf_alike hZ.alike A.2.1) A.2.2 hin hat (g := mkF m pc Ls (.int j :: .ref b :: rest)) rfl rfl hd t k
theorem own_laload (X : Stand p l e R s m args below meth c T locs cells slots) (C : own_Ctx p s m meth c Z y bytes maxL rt) (eT : T.heap = h) {vs : List Int64} (F : own_AJ Z h b .long vs) {j : Int32} {v : Int64} (g : own_get vs j = some v) {pc : Nat} {Ls : Array Slot} {rest : List Value} (hd : decode c.code pc = .ok (.laload, 1)) :
    ∀ t, Steps p.tables e below (T.setTop (mkF m (pc + 1) Ls (.long v :: rest))) t → Steps p.tables e below (T.setTop (mkF m pc Ls (.int j :: .ref b :: rest))) t := by
  obtain ⟨hx, hZ, -⟩ := C
  obtain ⟨cl, A, hin, hat⟩ := own_A.place F g
  intro t k
  exact X.laload hx (j := j) (v := .long v) (by rw [eT]; exact A.1) (State.isArrayOf_alike hZ.alike A.2.1) A.2.2 hin hat (g := mkF m pc Ls (.int j :: .ref b :: rest)) rfl rfl hd t k
theorem own_len (X : Stand p l e R s m args below meth c T locs cells slots) (C : own_Ctx p s m meth c Z y bytes maxL rt) (eT : T.heap = h) {vs : List Value} (F : own_A Z h b ty vs) {pc : Nat} {Ls : Array Slot} {rest : List Value} (hd : decode c.code pc = .ok (.arraylength, 1)) :
    ∀ t, Steps p.tables e below (T.setTop (mkF m (pc + 1) Ls (.int (Int32.ofNat vs.length) :: rest))) t → Steps p.tables e below (T.setTop (mkF m pc Ls (.ref b :: rest))) t := by
  obtain ⟨hx, hZ, -⟩ := C
  obtain ⟨-, cl, A, r1, r2, -⟩ := F
  intro t k
  refine X.arraylength hx (by rw [eT]; exact A.1) (State.isArrayOf_alike hZ.alike A.2.1) (g := mkF m pc Ls (.ref b :: rest)) rfl rfl hd t ?_
  have q : cl.slots.size.toInt32 = Int32.ofNat vs.length := by
    rw [r1, List.size_toArray]
  rw [q]; exact k
theorem own_lenI (X : Stand p l e R s m args below meth c T locs cells slots) (C : own_Ctx p s m meth c Z y bytes maxL rt) (eT : T.heap = h) {vs : List Int32} (F : own_AI Z h b ty vs) {pc : Nat} {Ls : Array Slot} {rest : List Value} (hd : decode c.code pc = .ok (.arraylength, 1)) :
    ∀ t, Steps p.tables e below (T.setTop (mkF m (pc + 1) Ls (.int (Int32.ofNat vs.length) :: rest))) t → Steps p.tables e below (T.setTop (mkF m pc Ls (.ref b :: rest))) t := by
  have k := own_len X C eT F (Ls := Ls) (rest := rest) hd
  rwa [List.length_map] at k
theorem own_lenJ (X : Stand p l e R s m args below meth c T locs cells slots) (C : own_Ctx p s m meth c Z y bytes maxL rt) (eT : T.heap = h) {vs : List Int64} (F : own_AJ Z h b ty vs) {pc : Nat} {Ls : Array Slot} {rest : List Value} (hd : decode c.code pc = .ok (.arraylength, 1)) :
    ∀ t, Steps p.tables e below (T.setTop (mkF m (pc + 1) Ls (.int (Int32.ofNat vs.length) :: rest))) t → Steps p.tables e below (T.setTop (mkF m pc Ls (.ref b :: rest))) t := by
  have k := own_len X C eT F (Ls := Ls) (rest := rest) hd
  rwa [List.length_map] at k
theorem own_iastore (X : Stand p l e R s m args below meth c T locs cells slots) (C : own_Ctx p s m meth c Z y bytes maxL rt) (eT : T.heap = h) {vs vs' : List Int32} (F : own_AI Z h b .int vs) {j x : Int32} (g : own_set vs j x = some vs') {pc : Nat} {Ls : Array Slot} {rest : List Value} (hd : decode c.code pc = .ok (.iastore, 1)) :
    ∃ T' h', Stand p l e R s m args below meth c T' (locs ++ [⟨b, j.toNatClampNeg⟩]) cells slots ∧ T'.heap = h' ∧ Wr h h' b j.toNatClampNeg (.int x) ∧ own_AI Z h' b .int vs' ∧
      ∀ t, Steps p.tables e below (T'.setTop (mkF m (pc + 1) Ls rest)) t → Steps p.tables e below (T.setTop (mkF m pc Ls (.int x :: .int j :: .ref b :: rest))) t := by
  obtain ⟨hx, hZ, -⟩ := C
  obtain ⟨cl, A, hin, rfl⟩ := own_A.room F g
  obtain ⟨T', h', X', e', W, st⟩ := stI X hx hZ eT A (j := j) (x := x) hin (g := mkF m pc Ls (.int x :: .int j :: .ref b :: rest)) rfl rfl hd
  refine ⟨T', h', X', e', W, ?_, st⟩
  have k := own_A.set F W rfl
  unfold own_AI
  rwa [List.map_set]
theorem own_lastore (X : Stand p l e R s m args below meth c T locs cells slots) (C : own_Ctx p s m meth c Z y bytes maxL rt) (eT : T.heap = h) {vs vs' : List Int64} (F : own_AJ Z h b .long vs) {j : Int32} {x : Int64} (g : own_set vs j x = some vs') {pc : Nat} {Ls : Array Slot} {rest : List Value} (hd : decode c.code pc = .ok (.lastore, 1)) :
    ∃ T' h', Stand p l e R s m args below meth c T' (locs ++ [⟨b, j.toNatClampNeg⟩]) cells slots ∧ T'.heap = h' ∧ Wr h h' b j.toNatClampNeg (.long x) ∧ own_AJ Z h' b .long vs' ∧
      ∀ t, Steps p.tables e below (T'.setTop (mkF m (pc + 1) Ls rest)) t → Steps p.tables e below (T.setTop (mkF m pc Ls (.long x :: .int j :: .ref b :: rest))) t := by
  obtain ⟨hx, hZ, -⟩ := C
  obtain ⟨cl, A, hin, rfl⟩ := own_A.room F g
  obtain ⟨T', h', X', e', W, st⟩ := stJ X hx hZ eT A (j := j) (x := x) hin (g := mkF m pc Ls (.long x :: .int j :: .ref b :: rest)) rfl rfl hd
  refine ⟨T', h', X', e', W, ?_, st⟩
  have k := own_A.set F W rfl
  unfold own_AJ
  rwa [List.map_set]
theorem own_bastore (X : Stand p l e R s m args below meth c T locs cells slots) (C : own_Ctx p s m meth c Z y bytes maxL rt) (eT : T.heap = h) {vs vs' : List Int32} (F : own_AI Z h b .byte vs) {j x : Int32} (g : own_set vs j (x.toInt8.toInt32) = some vs') {pc : Nat} {Ls : Array Slot} {rest : List Value} (hd : decode c.code pc = .ok (.bastore, 1)) :
    ∃ T' h', Stand p l e R s m args below meth c T' (locs ++ [⟨b, j.toNatClampNeg⟩]) cells slots ∧ T'.heap = h' ∧ Wr h h' b j.toNatClampNeg (.int (x.toInt8.toInt32)) ∧ own_AI Z h' b .byte vs' ∧
      ∀ t, Steps p.tables e below (T'.setTop (mkF m (pc + 1) Ls rest)) t → Steps p.tables e below (T.setTop (mkF m pc Ls (.int x :: .int j :: .ref b :: rest))) t := by
  obtain ⟨hx, hZ, -⟩ := C
  obtain ⟨cl, A, hin, rfl⟩ := own_A.room F g
  obtain ⟨T', h', X', e', W, st⟩ := stB X hx hZ eT A (j := j) (x := x) hin (g := mkF m pc Ls (.int x :: .int j :: .ref b :: rest)) rfl rfl hd
  refine ⟨T', h', X', e', W, ?_, st⟩
  have k := own_A.set F W (fits_nar_byte x)
  unfold own_AI
  rwa [List.map_set]
theorem own_newI (X : Stand p l e R s m args below meth c T locs cells slots) (C : own_Ctx p s m meth c Z y bytes maxL rt) (eT : T.heap = h) {aty : ArrayType} (hk : newarray.typeOf aty = ty) (hdv : defaultValue ty = .int 0) (hfz : fits ty (.int 0) = true) (w : (Cond.arrayClass ty).before a0 Z = true) {n : Int32} (hn : ¬ n < 0) {cap : Nat} (hcap : n.toNatClampNeg ≤ cap) (hb : cap * 8 ≤ 536870912) (hc : cells + 1 ≤ R.cells) (hl : slots + cap ≤ R.slots)
    {pc : Nat} {Ls : Array Slot} {rest : List Value} (hd : decode c.code pc = .ok (.newarray aty, 2)) :
    ∃ T' h' b, Stand p l e R s m args below meth c T' locs (cells + 1) (slots + cap) ∧ T'.heap = h' ∧ Ext h h' ∧ b = h.size ∧ own_AI Z h' b ty (List.replicate n.toNatClampNeg 0) ∧
      ∀ t, Steps p.tables e below (T'.setTop (mkF m (pc + 2) Ls (.ref b :: rest))) t → Steps p.tables e below (T.setTop (mkF m pc Ls (.int n :: rest))) t := by
  obtain ⟨hx, hZ, -⟩ := C
  subst hk
  obtain ⟨T', h', k, X', e', E, A, Q, st⟩ := newPE X hx hZ w eT (g := mkF m pc Ls (.int n :: rest)) rfl hd rfl hn (cap := cap) hcap hb hc hl rfl
  refine ⟨T', h', h.size, X', e', E, rfl, ⟨Q, _, A, ?_, ?_, ?_⟩, st⟩
  · show Array.replicate _ _ = _
    rw [hdv]; simp
  · rw [List.map_replicate, List.length_replicate]; omega
  · intro v hv
    rw [List.map_replicate] at hv
    rw [List.eq_of_mem_replicate hv]
    exact hfz
theorem own_newJ (X : Stand p l e R s m args below meth c T locs cells slots) (C : own_Ctx p s m meth c Z y bytes maxL rt) (eT : T.heap = h) {aty : ArrayType} (hk : newarray.typeOf aty = ty) (hdv : defaultValue ty = .long 0) (hfz : fits ty (.long 0) = true) (w : (Cond.arrayClass ty).before a0 Z = true) {n : Int32} (hn : ¬ n < 0) {cap : Nat} (hcap : n.toNatClampNeg ≤ cap) (hb : cap * 8 ≤ 536870912) (hc : cells + 1 ≤ R.cells) (hl : slots + cap ≤ R.slots)
    {pc : Nat} {Ls : Array Slot} {rest : List Value} (hd : decode c.code pc = .ok (.newarray aty, 2)) :
    ∃ T' h' b, Stand p l e R s m args below meth c T' locs (cells + 1) (slots + cap) ∧ T'.heap = h' ∧ Ext h h' ∧ b = h.size ∧ own_AJ Z h' b ty (List.replicate n.toNatClampNeg 0) ∧
      ∀ t, Steps p.tables e below (T'.setTop (mkF m (pc + 2) Ls (.ref b :: rest))) t → Steps p.tables e below (T.setTop (mkF m pc Ls (.int n :: rest))) t := by
  obtain ⟨hx, hZ, -⟩ := C
  subst hk
  obtain ⟨T', h', k, X', e', E, A, Q, st⟩ := newPE X hx hZ w eT (g := mkF m pc Ls (.int n :: rest)) rfl hd rfl hn (cap := cap) hcap hb hc hl rfl
  refine ⟨T', h', h.size, X', e', E, rfl, ⟨Q, _, A, ?_, ?_, ?_⟩, st⟩
  · show Array.replicate _ _ = _
    rw [hdv]; simp
  · rw [List.map_replicate, List.length_replicate]; omega
  · intro v hv
    rw [List.map_replicate] at hv
    rw [List.eq_of_mem_replicate hv]
    exact hfz
end Own
end Jvm.Pilot.@@N@@
namespace Jvm.Pilot.@@N@@
open Jvm Jvm.ClassFile Sem Op Lib Jvm.Free Jvm.Stand Jvm.LawKit Jvm.RoadKit Bundle Jvm.Pilot.@@N@@.Jvm.D
/-- System.arraycopy on lists -/
def own_copyL {α : Type} (vs : List α) (sp : Int32) (ws : List α) (dp n : Int32) : Option (List α) :=
  if sp < 0 ∨ dp < 0 ∨ n < 0 ∨ vs.length < sp.toNatClampNeg + n.toNatClampNeg ∨ ws.length < dp.toNatClampNeg + n.toNatClampNeg then none
  else some (ws.take dp.toNatClampNeg ++ (vs.drop sp.toNatClampNeg).take n.toNatClampNeg ++ ws.drop (dp.toNatClampNeg + n.toNatClampNeg))
section Own
variable {p : Program} {l : Launch} {e : Env} {R : Room} {s : State} {m : MethodId} {args : Array Value} {below : List Frame} {meth : Method} {c : Code} {T T' : State} {locs : List Loc} {cells slots : Nat} {Z : State} {a0 : Array Value} {y : MethodName} {bytes : ByteArray} {maxL : Nat} {rt : Option FieldType} {h h' : Heap} {a b : Addr} {ty : FieldType}
theorem own_n32 {n : Nat} (hn : n < 2147483648) : (Int32.ofNat n).toNatClampNeg = n ∧ ¬ Int32.ofNat n < 0 := by
  have q : (Int32.ofNat n).toInt = n := Int32.toInt_ofNat_of_lt (by show n < 2 ^ 31; omega)
  refine ⟨?_, ?_⟩
  · show (Int32.ofNat n).toInt.toNat = n
    rw [q]; rfl
  · rw [Int32.lt_iff_toInt_lt, q]
    show ¬ (n : Int) < 0
    omega
theorem own_A.arv {vs : List Value} (F : own_A Z h b ty vs) (dv : Value) : ∃ k, Arv Z h b k ty (Int32.ofNat vs.length) vs dv := by
  obtain ⟨-, c, A, r1, r2, r3⟩ := F
  obtain ⟨q1, q2⟩ := own_n32 r2
  have hsz : c.slots.size = vs.length := by rw [r1]; simp
  refine ⟨c.cls, c, A, rfl, by rw [q1, hsz], q2, ?_, ?_⟩
  · intro k hk
    rw [hsz] at hk
    rw [r1]
    simp [hk]
  · intro i hi
    rw [hsz] at hi
    have : vs.getD i dv = vs[i] := by simp [hi]
    rw [this]
    exact r3 _ (List.getElem_mem hi)
theorem own_Arv.back {vs : List Value} {k : ClassId} {dv : Value} (Q : Exa Z h b ("[" ++ ty.toString)) (F : Arv Z h b k ty (Int32.ofNat vs.length) vs dv) (hl : vs.length < 2147483648) : own_A Z h b ty vs := by
  obtain ⟨c, A, -, S, N, H, G⟩ := F
  obtain ⟨q1, q2⟩ := own_n32 hl
  rw [q1] at S
  refine ⟨Q, c, A, ?_, hl, ?_⟩
  · apply Array.ext
    · simp [S]
    · intro i h1 h2
      have w := H i h1
      rw [Array.getElem?_eq_getElem h1] at w
      have hi : i < vs.length := by rw [← S]; exact h1
      simp [hi] at w
      rw [w]; simp
  · intro v hv
    obtain ⟨i, hi, rfl⟩ := List.mem_iff_getElem.mp hv
    have w := G i (by rw [S]; exact hi)
    simpa [hi] using w
theorem own_range (vs : List Value) (dv : Value) (sp n : Nat) (hn : sp + n ≤ vs.length) : (vs.drop sp).take n = (List.range n).map fun i => vs.getD (sp + i) dv := by
  apply List.ext_getElem
  · simp; omega
  · intro i h1 h2
    have hi : sp + i < vs.length := by simp at h1; omega
    simp [hi]
theorem own_copy (X : Stand p l e R s m args below meth c T locs cells slots) (C : own_Ctx p s m meth c Z y bytes maxL rt) (eT : T.heap = h) {idx : Nat} (w1 : (Cond.methodLink y.cls idx Jvm.Stand.acN).before a0 Z = true) (w2 : (Cond.native Jvm.Stand.acN).before a0 Z = true) (w3 : (Cond.static Jvm.Stand.acN).before a0 Z = true) (w4 : (Cond.initialized "java/lang/System").before a0 Z = true)
    {vs ws us : List Int32} (hty : refKind ty = false) (F : own_AI Z h a ty vs) (G : own_AI Z h b ty ws) {sp dp n : Int32} (g : own_copyL vs sp ws dp n = some us) {n0 : Nat} (N : Fr n0 locs) (ge : n0 ≤ b)
    {pc : Nat} {Ls : Array Slot} (hsz : Ls.size = maxL) {rest : List Value} (hd : decode c.code pc = .ok (.invokestatic idx, 3)) (hf : 1 ≤ R.frames) {W : Nat} (hW : (rest.map fun v => v.category).sum ≤ W) (hlo : W + (nativeFrameWords "java/lang/System" "arraycopy" 5 + 11) ≤ R.locals) :
    ∃ T' h' L, Stand p l e R s m args below meth c T' L cells slots ∧ T'.heap = h' ∧ Fr n0 L ∧ Keep h h' [b] ∧ own_AI Z h' b ty us ∧
      ∀ t, Steps p.tables e below (T'.setTop (mkF m (pc + 3) Ls rest)) t → Steps p.tables e below (T.setTop (mkF m pc Ls (.int n :: .int dp :: .ref b :: .int sp :: .ref a :: rest))) t := by
  obtain ⟨hx, hZ, hby, hml, hown, hnm, hr, hlk⟩ := C
  unfold own_copyL at g
  split at g
  · cases g
  · rename_i hno
    simp only [not_or, Nat.not_lt] at hno
    obtain ⟨k1, k2, k3, k4, k5⟩ := hno
    obtain ⟨ka, A⟩ := own_A.arv F (.int 0)
    obtain ⟨kb, B⟩ := own_A.arv G (.int 0)
    have lF : (vs.map Value.int).length < 2147483648 := by obtain ⟨-, _, _, _, q, _⟩ := F; exact q
    have lG : (ws.map Value.int).length < 2147483648 := by obtain ⟨-, _, _, _, q, _⟩ := G; exact q
    obtain ⟨q1, -⟩ := own_n32 lF
    obtain ⟨q2, -⟩ := own_n32 lG
    obtain ⟨T', h', L, X', e', N', K, V, st⟩ := cpA X hx hZ hown w1 w2 w3 w4 eT A B (Or.inl ⟨rfl, hty⟩) (sp := sp) (dp := dp) (nn := n) k1 k2 k3 (by rw [q1, List.length_map]; exact k4) (by rw [q2, List.length_map]; exact k5) rfl (by rw [List.length_map]; exact k5) N ge (g := mkF m pc Ls (.int n :: .int dp :: .ref b :: .int sp :: .ref a :: rest)) rfl (by rw [hml]; exact hsz) rfl hd hf (W := W) (by show 2 * 0 + _ ≤ _; omega) hlo
    refine ⟨T', h', L, X', e', N', K, ?_, st⟩
    have e1 := own_range (vs.map Value.int) (.int 0) sp.toNatClampNeg n.toNatClampNeg (by rw [List.length_map]; exact k4)
    rw [← e1] at V
    have e2 : (ws.map Value.int).take dp.toNatClampNeg ++ ((vs.map Value.int).drop sp.toNatClampNeg).take n.toNatClampNeg ++ (ws.map Value.int).drop (dp.toNatClampNeg + n.toNatClampNeg) = us.map Value.int := by
      rw [← Option.some.inj g]
      simp [List.map_take, List.map_drop]
    rw [e2] at V
    have e3 : (us.map Value.int).length = (ws.map Value.int).length := by
      rw [← e2]; simp; omega
    rw [← e3] at V
    exact own_Arv.back (G.1.keep K) V (by rw [e3]; exact lG)
theorem own_clone (X : Stand p l e R s m args below meth c T locs cells slots) (C : own_Ctx p s m meth c Z y bytes maxL rt) (eT : T.heap = h) {idx : Nat} {ad : String} (had : "[" ++ ty.toString = ad) (w1 : (Cond.methodLink y.cls idx ⟨ad, "clone", "()Ljava/lang/Object;"⟩).before a0 Z = true) (w2 : (Cond.sameMethod ad "java/lang/Object" "clone" "()Ljava/lang/Object;").before a0 Z = true) (w3 : (Cond.native ⟨"java/lang/Object", "clone", "()Ljava/lang/Object;"⟩).before a0 Z = true)
    (w4 : (Cond.instanceMethod ⟨"java/lang/Object", "clone", "()Ljava/lang/Object;"⟩).before a0 Z = true) (w5 : (Cond.selects ad ⟨ad, "clone", "()Ljava/lang/Object;"⟩ ⟨"java/lang/Object", "clone", "()Ljava/lang/Object;"⟩).before a0 Z = true) (w6 : (Cond.castable ad "java/lang/Cloneable").before a0 Z = true)
    {vs : List Int32} (F : own_AI Z h a ty vs) {pc : Nat} {Ls : Array Slot} (hsz : Ls.size = maxL) {rest : List Value} (hd : decode c.code pc = .ok (.invokevirtual idx, 3)) (hf : 1 ≤ R.frames) {W cap : Nat} (hW : (rest.map fun v => v.category).sum ≤ W) (hl : W + 14 ≤ R.locals) (hcap : vs.length ≤ cap) (hc : cells + 1 ≤ R.cells) (hsl : slots + cap ≤ R.slots) :
    ∃ T' h' b, Stand p l e R s m args below meth c T' locs (cells + 1) (slots + cap) ∧ T'.heap = h' ∧ Ext h h' ∧ b = h.size ∧ own_AI Z h' b ty vs ∧
      ∀ t, Steps p.tables e below (T'.setTop (mkF m (pc + 3) Ls (.ref b :: rest))) t → Steps p.tables e below (T.setTop (mkF m pc Ls (.ref a :: rest))) t := by
  obtain ⟨hx, hZ, hby, hml, hown, hnm, hr, hlk⟩ := C
  subst had
  obtain ⟨k, A⟩ := own_A.arv F (.int 0)
  have lF : (vs.map Value.int).length < 2147483648 := by obtain ⟨-, _, _, _, q, _⟩ := F; exact q
  obtain ⟨q1, -⟩ := own_n32 lF
  obtain ⟨T', h', X', e', E, A', Q, st⟩ := cloneH X hx hZ hown w1 w2 w3 w4 w5 w6 eT (Arv.arh A) F.1 (g := mkF m pc Ls (.ref a :: rest)) rfl (by rw [hml]; exact hsz) rfl hd hf (W := W) (cap := cap) (by show 2 * 0 + _ ≤ _; omega) hl (by rw [q1, List.length_map]; exact hcap) hc hsl
  exact ⟨T', h', h.size, X', e', E, rfl, own_Arv.back Q A' lF, st⟩
theorem own_castA (X : Stand p l e R s m args below meth c T locs cells slots) (C : own_Ctx p s m meth c Z y bytes maxL rt) (eT : T.heap = h) {idx : Nat} {ad : String} (had : "[" ++ ty.toString = ad) (w : (Cond.classLink y.cls idx ad).before a0 Z = true) {vs : List Int32} (F : own_AI Z h a ty vs) {pc : Nat} {Ls : Array Slot} {rest : List Value} (hd : decode c.code pc = .ok (.checkcast idx, 3)) :
    ∃ T', Stand p l e R s m args below meth c T' locs cells slots ∧ T'.heap = h ∧ ∀ t, Steps p.tables e below (T'.setTop (mkF m (pc + 3) Ls (.ref a :: rest))) t → Steps p.tables e below (T.setTop (mkF m pc Ls (.ref a :: rest))) t := by
  obtain ⟨hx, hZ, hby, hml, hown, hnm, hr, hlk⟩ := C
  subst had
  exact castY X hx hZ hown w eT (Ins.self F.1) (g := mkF m pc Ls (.ref a :: rest)) rfl rfl hd
/-- a private method is the one that is selected: out of another method's word on the same class -/
theorem own_selP {y y2 : MethodName} (hc : y2.cls = y.cls) (w2 : (Cond.selects y2.cls y2 y2).before a0 Z = true) (wi : (Cond.instanceMethod y).before a0 Z = true) (wp : (Cond.privateMethod y).before a0 Z = true) (hy : y.cls ≠ "java/lang/invoke/MethodHandle" ∧ y.cls ≠ "java/lang/invoke/VarHandle") : (Cond.selects y.cls y y).before a0 Z = true := by
  obtain ⟨mk, methM, hnamed, hmethM, hstM, habM⟩ := Cond.instanceMethod_spec wi
  obtain ⟨c, r, m2, q1, q2, q3, q4, kP, hkP, hkPi⟩ := Cond.selects_spec w2
  have hf := State.methodFound?_of_named hnamed hy
  have e1 := findClass_of_methodNamed hnamed
  have e2 := findClass_of_methodNamed q3
  rw [hc] at e2
  have e3 : mk.cls = m2.cls := Option.some.inj (e1.symm.trans e2)
  have hsel : selectMethod {} Z.vm mk.cls mk = .method mk := selectMethod_private hmethM (Cond.privateMethod_at wp mk methM hnamed hmethM)
  rw [← e3] at hkP
  simp [Cond.before, Cond.holds, Cond.value, e1, hf, hnamed, hsel, hkP, hkPi]
/-- a private instance method by its contract -/
theorem own_callR (X : Stand p l e R s m args below meth c T locs cells slots) (C : own_Ctx p s m meth c Z y bytes maxL rt) {idx : Nat} {y' : MethodName} {bytes' : ByteArray} {maxL' : Nat} {rt' : Option FieldType} {rm' : Room} {a : Addr} {argsL rest : List Value} {h : Heap} {P' : Option Value → Heap → List Loc → Prop}
    (hM : own_Met l Z y' bytes' maxL' rt' [] rm' (.ref a :: argsL).toArray h P') (w1 : (Cond.methodLink y.cls idx y').before a0 Z = true) (wsel : (Cond.selects y'.cls y' y').before a0 Z = true) (wp : (Cond.privateMethod y').before a0 Z = true) (w2 : (Cond.instanceMethod y').before a0 Z = true) (w3 : (Cond.initialized y'.cls).before a0 Z = true) (w4 : (Cond.code y' bytes' maxL' rt').before a0 Z = true)
    (hy : y'.cls ≠ "java/lang/invoke/MethodHandle" ∧ y'.cls ≠ "java/lang/invoke/VarHandle") (eT : T.heap = h) {cn : String} (E : Exa Z h a cn) {W : Nat} {pc : Nat} {Ls : Array Slot} (hsz : Ls.size = maxL) (hlen : ∀ sig, parseMethodDescriptor y'.desc = some sig → argsL.length = sig.parameters.length)
    {stk : List Value} (hst : stk = argsL.reverse ++ .ref a :: rest) (hW : (rest.map fun v => v.category).sum ≤ W) (hd : decode c.code pc = .ok (.invokevirtual idx, 3))
    (hf : rm'.frames + 1 ≤ R.frames) (hl : W + (maxL' + 11) + rm'.locals ≤ R.locals) (hc : cells + rm'.cells ≤ R.cells) (hs : slots + rm'.slots ≤ R.slots) :
    ∃ T' v L, Stand p l e R s m args below meth c T' (locs ++ L) (cells + rm'.cells) (slots + rm'.slots) ∧ P' v T'.heap L ∧ ∀ t, Steps p.tables e below (T'.setTop (mkF m (pc + 3) Ls (v.toList ++ rest))) t → Steps p.tables e below (T.setTop (mkF m pc Ls stk)) t := by
  obtain ⟨hx, hZ, hby, hml, hown, hnm, hr, hlk⟩ := C
  obtain ⟨cq, q, q'⟩ := E.cell
  obtain ⟨v, _, ⟨T', L', k', n'⟩, -, X', ⟨L, hQ, hl', hk', hn'⟩, st⟩ := X.privateBack hx (y := y') hown (mvT hZ w1) (mvT hZ w2) (mvT hZ wsel) (Cond.privateMethod_at (mvP hZ wp (args := #[]))) (mvT hZ w4) hy (backOf (W := W) hM hZ w4 w3 hf hl) (g := mkF m pc Ls stk) rfl (by rw [hml]; exact hsz) (Steps.refl _) (a := a) (by rw [eT]; exact q) q' (argsL := argsL) (rest := rest) hlen hst (by show 2 * 0 + _ ≤ _; omega) hd (fun _ _ => ⟨rfl, eT, hc, hs⟩)
  dsimp only [Pt.U, Pt.locs, Pt.cells, Pt.slots] at X' hl' hk' hn' st hQ
  subst hl' hk' hn'
  exact ⟨T', v, L, X', hQ, fun t k => st.trans k⟩
end Own
end Jvm.Pilot.@@N@@
namespace Jvm.Pilot.@@N@@
open Jvm Jvm.ClassFile Sem Op Lib Jvm.Free Jvm.Stand Jvm.LawKit Jvm.RoadKit Bundle Jvm.Pilot.@@N@@.Jvm.D
theorem d11_0 : decode jdk_29_method_69_code 0 = .ok (.iload_n 0, 1) := by decide +kernel
theorem d11_1 : decode jdk_29_method_69_code 1 = .ok (.iload_n 1, 1) := by decide +kernel
theorem d11_2 : decode jdk_29_method_69_code 2 = .ok (.if_icmp .gt 7, 3) := by decide +kernel
theorem d11_5 : decode jdk_29_method_69_code 5 = .ok (.iload_n 0, 1) := by decide +kernel
theorem d11_6 : decode jdk_29_method_69_code 6 = .ok (.goto 4, 3) := by decide +kernel
theorem d11_9 : decode jdk_29_method_69_code 9 = .ok (.iload_n 1, 1) := by decide +kernel
theorem d11_10 : decode jdk_29_method_69_code 10 = .ok (.ireturn, 1) := by decide +kernel
def rmR11 : Room := { frames := 0, cells := 0, slots := 0, locals := 0 }
def f11_0 (x0 : Int32) (x1 : Int32) : Int32 := (if x1 < x0 then x1 else x0)
set_option maxRecDepth 65536 in
set_option maxHeartbeats 40000000 in
theorem b11_0 {p : Program} {l : Launch} {e : Env} {s : State} {m : MethodId} {args : Array Value} {below : List Frame} {meth : Method} {c : Code} {T : State} {locs : List Loc} {Z : State} {a0 : Array Value} {h0 : Heap} {P : Option Value → Heap → List Loc → Prop} (hw : ∀ d ∈ tables_1, d.before a0 Z = true) (C : own_Ctx p s m meth c Z (⟨"java/lang/Math", "min", "(II)I"⟩ : MethodName) jdk_29_method_69_code 2 (some .int))
    (X : Stand p l e rmR11 s m args below meth c T locs 0 0) (e0 : T.heap = h0) (x0 : Int32) (x1 : Int32) (r : Int32) (hv : f11_0 x0 x1 = r) (hP : P (some (.int r)) h0 locs) :
    own_WP p e below (own_Q s P rmR11.cells rmR11.slots) T (mkF m 0 #[.val (.int x0), .val (.int x1)] []) := by
  obtain ⟨hx, hZ, hby, hml, hown, hnm, hret, hlk⟩ := id C
  unfold f11_0 at hv
  show own_WP p e below _ T (mkF m 0 #[.val (.int x0), .val (.int x1)] [])
  refine own_go (fun _ => XS.iloadN X.here hx rfl (hb hby d11_0) rfl) ?_
  show own_WP p e below _ T (mkF m 1 #[.val (.int x0), .val (.int x1)] [(.int x0)])
  refine own_go (fun _ => XS.iloadN X.here hx rfl (hb hby d11_1) rfl) ?_
  show own_WP p e below _ T (mkF m 2 #[.val (.int x0), .val (.int x1)] [(.int x1), (.int x0)])
  by_cases h2 : x1 < x0
  · replace hv := (if_pos h2).symm.trans hv
    refine own_go (fun _ => XS.icmpYes X.here hx rfl (pc0 := 2) (pc' := 9) rfl (hb hby d11_2) rfl (XT.ii_gt_t h2) (by decide) (by decide)) ?_
    show own_WP p e below _ T (mkF m 9 #[.val (.int x0), .val (.int x1)] [])
    refine own_go (fun _ => XS.iloadN X.here hx rfl (hb hby d11_9) rfl) ?_
    show own_WP p e below _ T (mkF m 10 #[.val (.int x0), .val (.int x1)] [(.int x1)])
    subst hv e0; exact own_retI X C (hb hby d11_10) hP (by decide) (by decide)
  · replace hv := (if_neg h2).symm.trans hv
    refine own_go (fun _ => XS.icmpNo X.here hx rfl (hb hby d11_2) rfl (XT.ii_gt_f h2)) ?_
    show own_WP p e below _ T (mkF m 5 #[.val (.int x0), .val (.int x1)] [])
    refine own_go (fun _ => XS.iloadN X.here hx rfl (hb hby d11_5) rfl) ?_
    show own_WP p e below _ T (mkF m 6 #[.val (.int x0), .val (.int x1)] [(.int x0)])
    refine own_go (fun _ => XS.goto X.here hx rfl (pc0 := 6) (pc' := 10) rfl (hb hby d11_6) (by decide) (by decide)) ?_
    show own_WP p e below _ T (mkF m 10 #[.val (.int x0), .val (.int x1)] [(.int x0)])
    subst hv e0; exact own_retI X C (hb hby d11_10) hP (by decide) (by decide)
theorem ef11 (m : MethodId) (x0 : Int32) (x1 : Int32) : entryFrame m #[(.int x0), (.int x1)] 2 = (mkF m 0 #[.val (.int x0), .val (.int x1)] []) := by first | (simp [entryFrame, mkF, argsToLocals, Value.category]; done) | rfl
theorem pd11 : parseMethodDescriptor "(II)I" = some ⟨[.int, .int], some .int⟩ := by decide +kernel
theorem pn11 : plainFor (⟨"java/lang/Math", "min", "(II)I"⟩ : MethodName) = true := Jvm.Free.JP.mathPlain rfl (by decide +kernel)
theorem rm11 (l : Launch) (Z : State) (a0 : Array Value) (hw : ∀ d ∈ tables_1, d.before a0 Z = true) (x0 : Int32) (x1 : Int32) (h0 : Heap) : own_Met l Z (⟨"java/lang/Math", "min", "(II)I"⟩ : MethodName) jdk_29_method_69_code 2 (some .int) [] rmR11 #[(.int x0), (.int x1)] h0 (fun v h L => v = some (.int (f11_0 x0 x1)) ∧ L = [] ∧ h = h0) := by
  refine own_body pn11 ?_
  intro p e s m below meth c s₁ C X e0
  exact own_cast (ef11 m x0 x1) (b11_0 hw C X e0 x0 x1 _ rfl ⟨rfl, rfl, rfl⟩)
theorem d14_0 : decode jdk_29_method_65_code 0 = .ok (.iload_n 0, 1) := by decide +kernel
theorem d14_1 : decode jdk_29_method_65_code 1 = .ok (.iload_n 1, 1) := by decide +kernel
theorem d14_2 : decode jdk_29_method_65_code 2 = .ok (.if_icmp .lt 7, 3) := by decide +kernel
theorem d14_5 : decode jdk_29_method_65_code 5 = .ok (.iload_n 0, 1) := by decide +kernel
theorem d14_6 : decode jdk_29_method_65_code 6 = .ok (.goto 4, 3) := by decide +kernel
theorem d14_9 : decode jdk_29_method_65_code 9 = .ok (.iload_n 1, 1) := by decide +kernel
theorem d14_10 : decode jdk_29_method_65_code 10 = .ok (.ireturn, 1) := by decide +kernel
def rmR14 : Room := { frames := 0, cells := 0, slots := 0, locals := 0 }
def f14_0 (x0 : Int32) (x1 : Int32) : Int32 := (if x0 < x1 then x1 else x0)
set_option maxRecDepth 65536 in
set_option maxHeartbeats 40000000 in
theorem b14_0 {p : Program} {l : Launch} {e : Env} {s : State} {m : MethodId} {args : Array Value} {below : List Frame} {meth : Method} {c : Code} {T : State} {locs : List Loc} {Z : State} {a0 : Array Value} {h0 : Heap} {P : Option Value → Heap → List Loc → Prop} (hw : ∀ d ∈ tables_1, d.before a0 Z = true) (C : own_Ctx p s m meth c Z (⟨"java/lang/Math", "max", "(II)I"⟩ : MethodName) jdk_29_method_65_code 2 (some .int))
    (X : Stand p l e rmR14 s m args below meth c T locs 0 0) (e0 : T.heap = h0) (x0 : Int32) (x1 : Int32) (r : Int32) (hv : f14_0 x0 x1 = r) (hP : P (some (.int r)) h0 locs) :
    own_WP p e below (own_Q s P rmR14.cells rmR14.slots) T (mkF m 0 #[.val (.int x0), .val (.int x1)] []) := by
  obtain ⟨hx, hZ, hby, hml, hown, hnm, hret, hlk⟩ := id C
  unfold f14_0 at hv
  show own_WP p e below _ T (mkF m 0 #[.val (.int x0), .val (.int x1)] [])
  refine own_go (fun _ => XS.iloadN X.here hx rfl (hb hby d14_0) rfl) ?_
  show own_WP p e below _ T (mkF m 1 #[.val (.int x0), .val (.int x1)] [(.int x0)])
  refine own_go (fun _ => XS.iloadN X.here hx rfl (hb hby d14_1) rfl) ?_
  show own_WP p e below _ T (mkF m 2 #[.val (.int x0), .val (.int x1)] [(.int x1), (.int x0)])
  by_cases h2 : x0 < x1
  · replace hv := (if_pos h2).symm.trans hv
    refine own_go (fun _ => XS.icmpYes X.here hx rfl (pc0 := 2) (pc' := 9) rfl (hb hby d14_2) rfl (XT.ii_lt_t h2) (by decide) (by decide)) ?_
    show own_WP p e below _ T (mkF m 9 #[.val (.int x0), .val (.int x1)] [])
    refine own_go (fun _ => XS.iloadN X.here hx rfl (hb hby d14_9) rfl) ?_
    show own_WP p e below _ T (mkF m 10 #[.val (.int x0), .val (.int x1)] [(.int x1)])
    subst hv e0; exact own_retI X C (hb hby d14_10) hP (by decide) (by decide)
  · replace hv := (if_neg h2).symm.trans hv
    refine own_go (fun _ => XS.icmpNo X.here hx rfl (hb hby d14_2) rfl (XT.ii_lt_f h2)) ?_
    show own_WP p e below _ T (mkF m 5 #[.val (.int x0), .val (.int x1)] [])
    refine own_go (fun _ => XS.iloadN X.here hx rfl (hb hby d14_5) rfl) ?_
    show own_WP p e below _ T (mkF m 6 #[.val (.int x0), .val (.int x1)] [(.int x0)])
    refine own_go (fun _ => XS.goto X.here hx rfl (pc0 := 6) (pc' := 10) rfl (hb hby d14_6) (by decide) (by decide)) ?_
    show own_WP p e below _ T (mkF m 10 #[.val (.int x0), .val (.int x1)] [(.int x0)])
    subst hv e0; exact own_retI X C (hb hby d14_10) hP (by decide) (by decide)
theorem ef14 (m : MethodId) (x0 : Int32) (x1 : Int32) : entryFrame m #[(.int x0), (.int x1)] 2 = (mkF m 0 #[.val (.int x0), .val (.int x1)] []) := by first | (simp [entryFrame, mkF, argsToLocals, Value.category]; done) | rfl
theorem pd14 : parseMethodDescriptor "(II)I" = some ⟨[.int, .int], some .int⟩ := by decide +kernel
theorem pn14 : plainFor (⟨"java/lang/Math", "max", "(II)I"⟩ : MethodName) = true := Jvm.Free.JP.mathPlain rfl (by decide +kernel)
theorem rm14 (l : Launch) (Z : State) (a0 : Array Value) (hw : ∀ d ∈ tables_1, d.before a0 Z = true) (x0 : Int32) (x1 : Int32) (h0 : Heap) : own_Met l Z (⟨"java/lang/Math", "max", "(II)I"⟩ : MethodName) jdk_29_method_65_code 2 (some .int) [] rmR14 #[(.int x0), (.int x1)] h0 (fun v h L => v = some (.int (f14_0 x0 x1)) ∧ L = [] ∧ h = h0) := by
  refine own_body pn14 ?_
  intro p e s m below meth c s₁ C X e0
  exact own_cast (ef14 m x0 x1) (b14_0 hw C X e0 x0 x1 _ rfl ⟨rfl, rfl, rfl⟩)
theorem d1_0 : decode prog_55_method_1_code 0 = .ok (.aload_n 0, 1) := by decide +kernel
theorem d1_1 : decode prog_55_method_1_code 1 = .ok (.invokespecial 1, 3) := by decide +kernel
theorem d1_4 : decode prog_55_method_1_code 4 = .ok (.aload_n 0, 1) := by decide +kernel
theorem d1_5 : decode prog_55_method_1_code 5 = .ok (.bipush 64, 2) := by decide +kernel
theorem d1_7 : decode prog_55_method_1_code 7 = .ok (.newarray .byte, 2) := by decide +kernel
theorem d1_9 : decode prog_55_method_1_code 9 = .ok (.putfield 7, 3) := by decide +kernel
theorem d1_12 : decode prog_55_method_1_code 12 = .ok (.return_, 1) := by decide +kernel
def rmR1 : Room := { frames := 1, cells := 1, slots := 64, locals := 12 }
def E1 (Z : State) (h0 : Heap) (o0 : Nat)  (rr : Int32 × (List Int32)) (v : Option Value) (h : Heap) : Prop := ∃ b7, h0.size ≤ b7 ∧ v = none ∧ Exa Z h o0 "com/example/objwire/objwire/ndr/NdrWriter" ∧ Fld Z h o0 "com/example/objwire/objwire/ndr/NdrWriter" "data" "[B" (.ref b7) ∧ Fld Z h o0 "com/example/objwire/objwire/ndr/NdrWriter" "size" "I" (.int (rr.1)) ∧ own_AI Z h b7 .byte (rr.2)
def f1_0 (c_o0_size : Int32) : Option (Int32 × (List Int32)) := (some (c_o0_size, (List.replicate ((64 : Int32)).toNatClampNeg 0)))
set_option maxRecDepth 65536 in
set_option maxHeartbeats 40000000 in
theorem b1_0 {p : Program} {l : Launch} {e : Env} {s : State} {m : MethodId} {args : Array Value} {below : List Frame} {meth : Method} {c : Code} {Z : State} {a0 : Array Value} {h0 : Heap} {n0 : Nat} {P : Option Value → Heap → List Loc → Prop} (hw : ∀ d ∈ tables_1, d.before a0 Z = true) (C : own_Ctx p s m meth c Z (⟨"com/example/objwire/objwire/ndr/NdrWriter", "<init>", "()V"⟩ : MethodName) prog_55_method_1_code 1 none) (Z0 : n0 ≤ h0.size) {o0 : Nat}  (rr : Int32 × (List Int32)) (hP : ∀ v h L, Fr n0 L → Keep h0 h [o0] → E1 Z h0 o0 rr v h → P v h L)
    {T : State} {locs : List Loc} {h : Heap} {c_o0_size : Int32} (X : Stand p l e rmR1 s m args below meth c T locs 0 0) (e0 : T.heap = h) (N : Fr n0 locs) (K : Keep h0 h [o0]) (g_o0 : n0 ≤ o0) (E_o0 : Exa Z h o0 "com/example/objwire/objwire/ndr/NdrWriter") (F_o0_data : Fld Z h o0 "com/example/objwire/objwire/ndr/NdrWriter" "data" "[B" .null) (F_o0_size : Fld Z h o0 "com/example/objwire/objwire/ndr/NdrWriter" "size" "I" (.int c_o0_size)) (hv : f1_0 c_o0_size = some rr) :
    own_WP p e below (own_Q s P rmR1.cells rmR1.slots) T (mkF m 0 #[.val (.ref o0)] []) := by
  obtain ⟨hx, hZ, hby, hml, hown, hnm, hret, hlk⟩ := id C
  replace hown : s.vm.findClass "com/example/objwire/objwire/ndr/NdrWriter" = some m.cls := hown
  unfold f1_0 at hv
  show own_WP p e below _ T (mkF m 0 #[.val (.ref o0)] [])
  refine own_go (fun _ => XS.aloadN X.here hx rfl (hb hby d1_0) rfl rfl) ?_
  show own_WP p e below _ T (mkF m 1 #[.val (.ref o0)] [(.ref o0)])
  obtain ⟨T1, X1, e1, st1⟩ := initO X hx hZ hown (hw _ (List.mem_of_getElem? (i := 7) rfl)) (hw _ (List.mem_of_getElem? (i := 8) rfl)) (hw _ (List.mem_of_getElem? (i := 9) rfl)) e0 (g := (mkF m 1 #[.val (.ref o0)] [(.ref o0)])) rfl (by rw [hml]; rfl) rfl (hb hby d1_1) (by decide) (W := 0) (by show 2 * 0 + _ ≤ _; exact Nat.le_of_eq rfl) (by decide)
  refine own_go st1 ?_
  show own_WP p e below _ T1 (mkF m 4 #[.val (.ref o0)] [])
  refine own_go (fun _ => XS.aloadN X1.here hx rfl (hb hby d1_4) rfl rfl) ?_
  show own_WP p e below _ T1 (mkF m 5 #[.val (.ref o0)] [(.ref o0)])
  refine own_go (fun _ => XS.bipush X1.here hx rfl (hb hby d1_5)) ?_
  show own_WP p e below _ T1 (mkF m 7 #[.val (.ref o0)] [(.int (64 : Int32)), (.ref o0)])
  obtain ⟨T2, h2, b7, X2, e2, E2, hb_b7, V_b7, st2⟩ := own_newI X1 C e1 (aty := .byte) (ty := .byte) rfl rfl rfl (hw _ (List.mem_of_getElem? (i := 0) rfl)) (n := (64 : Int32)) (by decide) (cap := 64) (by decide) (by decide) (by decide) (by decide) (pc := 7) (Ls := #[.val (.ref o0)]) (rest := [(.ref o0)]) (hb hby d1_7)
  refine own_go st2 ?_
  have o_o0_b7 : o0 < b7 := by have q : o0 < h.size := E_o0.lt; omega
  have z_b7 : h0.size ≤ b7 := by have q := K.1; omega
  replace E_o0 := E_o0.ext E2
  replace F_o0_data := F_o0_data.ext E2
  replace F_o0_size := F_o0_size.ext E2
  replace K := K.ext E2
  show own_WP p e below _ T2 (mkF m 9 #[.val (.ref o0)] [(.ref b7), (.ref o0)])
  obtain ⟨T3, h3, X3, e3, W3, st3⟩ := putF X2 hx hZ hown (host := "") (Or.inl (hw _ (List.mem_of_getElem? (i := 10) rfl))) Via.refl e2 F_o0_data E_o0 (Or.inl (hw _ (List.mem_of_getElem? (i := 11) rfl))) (hw _ (List.mem_of_getElem? (i := 2) rfl)) (ty := (.array .byte)) (by decide) rfl rfl (g := (mkF m 9 #[.val (.ref o0)] [(.ref b7), (.ref o0)])) rfl rfl (hb hby d1_9)
  refine own_go st3 ?_
  replace E_o0 := E_o0.wr W3
  replace F_o0_data := F_o0_data.same W3
  replace F_o0_size := F_o0_size.other W3 (Or.inr (slot_ne (Or.inl (hw _ (List.mem_of_getElem? (i := 22) rfl))) (Or.inl (hw _ (List.mem_of_getElem? (i := 11) rfl))) (by decide) (t := .int) (t' := (.array .byte)) (by decide) (by decide)))
  replace V_b7 := V_b7.other W3 (own_ne (by omega))
  replace K := K.wr W3 (Or.inl (List.mem_of_getElem? (i := 0) rfl))
  replace N := Fr.snoc X3 N (by omega)
  show own_WP p e below _ T3 (mkF m 12 #[.val (.ref o0)] [])
  obtain rfl := Option.some.inj hv
  exact own_retV X3 C (hb hby d1_12) (by rw [e3]; exact hP _ _ _ N K ⟨b7, (by omega), rfl, E_o0, F_o0_data, F_o0_size, V_b7⟩) (by decide) (by decide)
theorem ef1 (m : MethodId) (o0 : Nat) : entryFrame m #[(.ref o0)] 1 = (mkF m 0 #[.val (.ref o0)] []) := by first | (simp [entryFrame, mkF, argsToLocals, Value.category]; done) | rfl
theorem pd1 : parseMethodDescriptor "()V" = some ⟨[], none⟩ := by decide +kernel
theorem pn1 : plainFor (⟨"com/example/objwire/objwire/ndr/NdrWriter", "<init>", "()V"⟩ : MethodName) = true := plainFor_of_name (by first | (simp [plainName, overriddenIn]; done) | decide +kernel)
theorem rm1 (l : Launch) (Z : State) (a0 : Array Value) (hw : ∀ d ∈ tables_1, d.before a0 Z = true) (n0 : Nat) (h0 : Heap) (Z0 : n0 ≤ h0.size) {o0 : Nat} {c_o0_size : Int32}  (g_o0 : n0 ≤ o0) (E_o0 : Exa Z h0 o0 "com/example/objwire/objwire/ndr/NdrWriter") (F_o0_data : Fld Z h0 o0 "com/example/objwire/objwire/ndr/NdrWriter" "data" "[B" .null) (F_o0_size : Fld Z h0 o0 "com/example/objwire/objwire/ndr/NdrWriter" "size" "I" (.int c_o0_size))   (rr : Int32 × (List Int32)) (hf : f1_0 c_o0_size = some rr) :
    own_Met l Z (⟨"com/example/objwire/objwire/ndr/NdrWriter", "<init>", "()V"⟩ : MethodName) prog_55_method_1_code 1 none [] rmR1 #[(.ref o0)] h0 (fun v h L => Fr n0 L ∧ Keep h0 h [o0] ∧ E1 Z h0 o0 rr v h) := by
  refine own_body pn1 ?_
  intro p e s m below meth c s₁ C X e0
  exact own_cast (ef1 m o0) (b1_0 hw C Z0 rr (fun v h L a b c => ⟨a, b, c⟩) X e0 (Fr.nil n0) (Keep.refl h0 [o0]) g_o0 E_o0 F_o0_data F_o0_size hf)
theorem d10_0 : decode jdk_65_method_121_code 0 = .ok (.iload_n 1, 1) := by decide +kernel
theorem d10_1 : decode jdk_65_method_121_code 1 = .ok (.aload_n 0, 1) := by decide +kernel
theorem d10_2 : decode jdk_65_method_121_code 2 = .ok (.arraylength, 1) := by decide +kernel
theorem d10_3 : decode jdk_65_method_121_code 3 = .ok (.if_icmp .ne 11, 3) := by decide +kernel
theorem d10_6 : decode jdk_65_method_121_code 6 = .ok (.aload_n 0, 1) := by decide +kernel
theorem d10_7 : decode jdk_65_method_121_code 7 = .ok (.invokevirtual 310, 3) := by decide +kernel
theorem d10_10 : decode jdk_65_method_121_code 10 = .ok (.checkcast 311, 3) := by decide +kernel
theorem d10_13 : decode jdk_65_method_121_code 13 = .ok (.areturn, 1) := by decide +kernel
theorem d10_14 : decode jdk_65_method_121_code 14 = .ok (.iload_n 1, 1) := by decide +kernel
theorem d10_15 : decode jdk_65_method_121_code 15 = .ok (.newarray .byte, 2) := by decide +kernel
theorem d10_17 : decode jdk_65_method_121_code 17 = .ok (.astore_n 2, 1) := by decide +kernel
theorem d10_18 : decode jdk_65_method_121_code 18 = .ok (.aload_n 0, 1) := by decide +kernel
theorem d10_19 : decode jdk_65_method_121_code 19 = .ok (.iconst 0, 1) := by decide +kernel
theorem d10_20 : decode jdk_65_method_121_code 20 = .ok (.aload_n 2, 1) := by decide +kernel
theorem d10_21 : decode jdk_65_method_121_code 21 = .ok (.iconst 0, 1) := by decide +kernel
theorem d10_22 : decode jdk_65_method_121_code 22 = .ok (.aload_n 0, 1) := by decide +kernel
theorem d10_23 : decode jdk_65_method_121_code 23 = .ok (.arraylength, 1) := by decide +kernel
theorem d10_24 : decode jdk_65_method_121_code 24 = .ok (.iload_n 1, 1) := by decide +kernel
theorem d10_25 : decode jdk_65_method_121_code 25 = .ok (.invokestatic 304, 3) := by decide +kernel
theorem d10_28 : decode jdk_65_method_121_code 28 = .ok (.invokestatic 150, 3) := by decide +kernel
theorem d10_31 : decode jdk_65_method_121_code 31 = .ok (.aload_n 2, 1) := by decide +kernel
theorem d10_32 : decode jdk_65_method_121_code 32 = .ok (.areturn, 1) := by decide +kernel
def rmR10 : Room := { frames := 1, cells := 1, slots := 256, locals := 18 }
def E10 (Z : State) (h0 : Heap) (o0 : Nat) (vs : List Int32) (rr : (List Int32)) (v : Option Value) (h : Heap) : Prop := ∃ res, h0.size ≤ res ∧ v = some (.ref res) ∧ own_AI Z h res .byte rr
def f10_0 (vs : List Int32) (x1 : Int32) : Option ((List Int32)) := (if x1 = (Int32.ofNat vs.length) then (if 256 < vs.length then none else (some vs)) else (if x1 < 0 ∨ 256 < x1.toInt then none else ((own_copyL vs (0 : Int32) (List.replicate (x1).toNatClampNeg 0) (0 : Int32) (f11_0 (Int32.ofNat vs.length) x1)).bind fun u5 => (some u5))))
set_option maxRecDepth 65536 in
set_option maxHeartbeats 40000000 in
theorem b10_0 {p : Program} {l : Launch} {e : Env} {s : State} {m : MethodId} {args : Array Value} {below : List Frame} {meth : Method} {c : Code} {Z : State} {a0 : Array Value} {h0 : Heap} {n0 : Nat} {P : Option Value → Heap → List Loc → Prop} (hw : ∀ d ∈ tables_1, d.before a0 Z = true) (C : own_Ctx p s m meth c Z (⟨"java/util/Arrays", "copyOf", "([BI)[B"⟩ : MethodName) jdk_65_method_121_code 3 (some (.array .byte))) (Z0 : n0 ≤ h0.size) {o0 : Nat} {vs : List Int32} (rr : (List Int32)) (hP : ∀ v h L, Fr n0 L → Keep h0 h [] → E10 Z h0 o0 vs rr v h → P v h L)
    {T : State} {locs : List Loc} {h : Heap} (X : Stand p l e rmR10 s m args below meth c T locs 0 0) (e0 : T.heap = h) (N : Fr n0 locs) (K : Keep h0 h []) (g_o0 : n0 ≤ o0) (V_o0 : own_AI Z h o0 .byte vs) (x1 : Int32) (hv : f10_0 vs x1 = some rr) :
    own_WP p e below (own_Q s P rmR10.cells rmR10.slots) T (mkF m 0 #[.val (.ref o0), .val (.int x1), .unset] []) := by
  obtain ⟨hx, hZ, hby, hml, hown, hnm, hret, hlk⟩ := id C
  replace hown : s.vm.findClass "java/util/Arrays" = some m.cls := hown
  unfold f10_0 at hv
  show own_WP p e below _ T (mkF m 0 #[.val (.ref o0), .val (.int x1), .unset] [])
  refine own_go (fun _ => XS.iloadN X.here hx rfl (hb hby d10_0) rfl) ?_
  show own_WP p e below _ T (mkF m 1 #[.val (.ref o0), .val (.int x1), .unset] [(.int x1)])
  refine own_go (fun _ => XS.aloadN X.here hx rfl (hb hby d10_1) rfl rfl) ?_
  show own_WP p e below _ T (mkF m 2 #[.val (.ref o0), .val (.int x1), .unset] [(.ref o0), (.int x1)])
  refine own_go (own_lenI X C e0 V_o0 (hb hby d10_2)) ?_
  show own_WP p e below _ T (mkF m 3 #[.val (.ref o0), .val (.int x1), .unset] [(.int (Int32.ofNat vs.length)), (.int x1)])
  by_cases h3 : x1 = (Int32.ofNat vs.length)
  · replace hv := (if_pos h3).symm.trans hv
    refine own_go (fun _ => XS.icmpNo X.here hx rfl (hb hby d10_3) rfl (XT.ii_ne_f h3)) ?_
    show own_WP p e below _ T (mkF m 6 #[.val (.ref o0), .val (.int x1), .unset] [])
    refine own_go (fun _ => XS.aloadN X.here hx rfl (hb hby d10_6) rfl rfl) ?_
    show own_WP p e below _ T (mkF m 7 #[.val (.ref o0), .val (.int x1), .unset] [(.ref o0)])
    by_cases h7 : 256 < vs.length
    · cases ((if_pos h7).symm.trans hv)
    replace hv := (if_neg h7).symm.trans hv
    obtain ⟨T1, h1, b7, X1, e1, E1, hb_b7, V_b7, st1⟩ := own_clone X C e0 (ad := "[B") rfl (hw _ (List.mem_of_getElem? (i := 73) rfl)) (hw _ (List.mem_of_getElem? (i := 74) rfl)) (hw _ (List.mem_of_getElem? (i := 78) rfl)) (hw _ (List.mem_of_getElem? (i := 76) rfl)) (hw _ (List.mem_of_getElem? (i := 77) rfl)) (hw _ (List.mem_of_getElem? (i := 79) rfl)) V_o0 (pc := 7) (Ls := #[.val (.ref o0), .val (.int x1), .unset]) rfl (rest := []) (hb hby d10_7) (by decide) (W := 0) (cap := 256) (Nat.le_of_ble_eq_true rfl) (by decide) (Nat.le_of_not_lt h7) (by decide) (by decide)
    refine own_go st1 ?_
    have o_o0_b7 : o0 < b7 := by have q : o0 < h.size := V_o0.lt; omega
    have z_b7 : h0.size ≤ b7 := by have q := K.1; omega
    replace V_o0 := V_o0.ext E1
    replace K := K.ext E1
    show own_WP p e below _ T1 (mkF m 10 #[.val (.ref o0), .val (.int x1), .unset] [(.ref b7)])
    obtain ⟨T2, X2, e2, st2⟩ := own_castA X1 C e1 (ad := "[B") rfl (hw _ (List.mem_of_getElem? (i := 80) rfl)) V_b7 (pc := 10) (Ls := #[.val (.ref o0), .val (.int x1), .unset]) (rest := []) (hb hby d10_10)
    refine own_go st2 ?_
    show own_WP p e below _ T2 (mkF m 13 #[.val (.ref o0), .val (.int x1), .unset] [(.ref b7)])
    obtain rfl := Option.some.inj hv
    exact own_retA X2 C rfl (hb hby d10_13) (by rw [e2]; exact hP _ _ _ N K ⟨b7, (by omega), rfl, V_b7⟩) (by decide) (by decide)
  · replace hv := (if_neg h3).symm.trans hv
    refine own_go (fun _ => XS.icmpYes X.here hx rfl (pc0 := 3) (pc' := 14) rfl (hb hby d10_3) rfl (XT.ii_ne_t h3) (by decide) (by decide)) ?_
    show own_WP p e below _ T (mkF m 14 #[.val (.ref o0), .val (.int x1), .unset] [])
    refine own_go (fun _ => XS.iloadN X.here hx rfl (hb hby d10_14) rfl) ?_
    show own_WP p e below _ T (mkF m 15 #[.val (.ref o0), .val (.int x1), .unset] [(.int x1)])
    by_cases h15 : x1 < 0 ∨ 256 < x1.toInt
    · cases ((if_pos h15).symm.trans hv)
    replace hv := (if_neg h15).symm.trans hv
    obtain ⟨T3, h3, b15, X3, e3, E3, hb_b15, V_b15, st3⟩ := own_newI X C e0 (aty := .byte) (ty := .byte) rfl rfl rfl (hw _ (List.mem_of_getElem? (i := 0) rfl)) (n := x1) (fun q => h15 (Or.inl q)) (cap := 256) (own_cap (k := 256) rfl (fun q => h15 (Or.inr q))) (by decide) (by decide) (by decide) (pc := 15) (Ls := #[.val (.ref o0), .val (.int x1), .unset]) (rest := []) (hb hby d10_15)
    refine own_go st3 ?_
    have o_o0_b15 : o0 < b15 := by have q : o0 < h.size := V_o0.lt; omega
    have z_b15 : h0.size ≤ b15 := by have q := K.1; omega
    replace V_o0 := V_o0.ext E3
    replace K := K.ext E3
    show own_WP p e below _ T3 (mkF m 17 #[.val (.ref o0), .val (.int x1), .unset] [(.ref b15)])
    refine own_go (fun _ => XS.astoreN X3.here hx rfl (hb hby d10_17) rfl rfl (l' := #[.val (.ref o0), .val (.int x1), .val (.ref b15)]) rfl) ?_
    show own_WP p e below _ T3 (mkF m 18 #[.val (.ref o0), .val (.int x1), .val (.ref b15)] [])
    refine own_go (fun _ => XS.aloadN X3.here hx rfl (hb hby d10_18) rfl rfl) ?_
    show own_WP p e below _ T3 (mkF m 19 #[.val (.ref o0), .val (.int x1), .val (.ref b15)] [(.ref o0)])
    refine own_go (fun _ => XS.iconst X3.here hx rfl (hb hby d10_19)) ?_
    show own_WP p e below _ T3 (mkF m 20 #[.val (.ref o0), .val (.int x1), .val (.ref b15)] [(.int (0 : Int32)), (.ref o0)])
    refine own_go (fun _ => XS.aloadN X3.here hx rfl (hb hby d10_20) rfl rfl) ?_
    show own_WP p e below _ T3 (mkF m 21 #[.val (.ref o0), .val (.int x1), .val (.ref b15)] [(.ref b15), (.int (0 : Int32)), (.ref o0)])
    refine own_go (fun _ => XS.iconst X3.here hx rfl (hb hby d10_21)) ?_
    show own_WP p e below _ T3 (mkF m 22 #[.val (.ref o0), .val (.int x1), .val (.ref b15)] [(.int (0 : Int32)), (.ref b15), (.int (0 : Int32)), (.ref o0)])
    refine own_go (fun _ => XS.aloadN X3.here hx rfl (hb hby d10_22) rfl rfl) ?_
    show own_WP p e below _ T3 (mkF m 23 #[.val (.ref o0), .val (.int x1), .val (.ref b15)] [(.ref o0), (.int (0 : Int32)), (.ref b15), (.int (0 : Int32)), (.ref o0)])
    refine own_go (own_lenI X3 C e3 V_o0 (hb hby d10_23)) ?_
    show own_WP p e below _ T3 (mkF m 24 #[.val (.ref o0), .val (.int x1), .val (.ref b15)] [(.int (Int32.ofNat vs.length)), (.int (0 : Int32)), (.ref b15), (.int (0 : Int32)), (.ref o0)])
    refine own_go (fun _ => XS.iloadN X3.here hx rfl (hb hby d10_24) rfl) ?_
    show own_WP p e below _ T3 (mkF m 25 #[.val (.ref o0), .val (.int x1), .val (.ref b15)] [(.int x1), (.int (Int32.ofNat vs.length)), (.int (0 : Int32)), (.ref b15), (.int (0 : Int32)), (.ref o0)])
    obtain ⟨T4, v4, L4, X4, ⟨rfl, rfl, e4⟩, st4⟩ := own_callS X3 C (rm11 l Z a0 hw (Int32.ofNat vs.length) x1 h3) (hw _ (List.mem_of_getElem? (i := 56) rfl)) (hw _ (List.mem_of_getElem? (i := 57) rfl)) (hw _ (List.mem_of_getElem? (i := 58) rfl)) (hw _ (List.mem_of_getElem? (i := 59) rfl)) (by decide) e3 (W := 4) (pc := 25) (Ls := #[.val (.ref o0), .val (.int x1), .val (.ref b15)]) rfl (lenOf pd11 rfl) (rest := [(.int (0 : Int32)), (.ref b15), (.int (0 : Int32)), (.ref o0)]) (stk := [(.int x1), (.int (Int32.ofNat vs.length)), (.int (0 : Int32)), (.ref b15), (.int (0 : Int32)), (.ref o0)]) rfl (Nat.le_of_ble_eq_true rfl) (hb hby d10_25) (by decide) (by decide) (by decide) (by decide)
    rw [List.append_nil] at X4
    refine own_go st4 ?_
    show own_WP p e below _ T4 (mkF m 28 #[.val (.ref o0), .val (.int x1), .val (.ref b15)] [(.int (f11_0 (Int32.ofNat vs.length) x1)), (.int (0 : Int32)), (.ref b15), (.int (0 : Int32)), (.ref o0)])
    obtain ⟨u5, hg5, hv⟩ := own_bind hv
    obtain ⟨T5, h5, L5, X5, e5, N5, K5, V'5, st5⟩ := own_copy X4 C e4 (hw _ (List.mem_of_getElem? (i := 60) rfl)) (hw _ (List.mem_of_getElem? (i := 31) rfl)) (hw _ (List.mem_of_getElem? (i := 29) rfl)) (hw _ (List.mem_of_getElem? (i := 30) rfl)) rfl V_o0 V_b15 hg5 N (by omega) (pc := 28) (Ls := #[.val (.ref o0), .val (.int x1), .val (.ref b15)]) rfl (rest := []) (hb hby d10_28) (by decide) (W := 0) (Nat.le_of_ble_eq_true rfl) (by decide)
    refine own_go st5 ?_
    replace V_o0 := V_o0.keep K5 (ninS (own_ne (by omega)) nin0)
    replace V_b15 := V'5
    clear V'5
    replace N := N5
    replace K := K.trans K5 (allS (Or.inr (by omega)) all0)
    show own_WP p e below _ T5 (mkF m 31 #[.val (.ref o0), .val (.int x1), .val (.ref b15)] [])
    refine own_go (fun _ => XS.aloadN X5.here hx rfl (hb hby d10_31) rfl rfl) ?_
    show own_WP p e below _ T5 (mkF m 32 #[.val (.ref o0), .val (.int x1), .val (.ref b15)] [(.ref b15)])
    obtain rfl := Option.some.inj hv
    exact own_retA X5 C rfl (hb hby d10_32) (by rw [e5]; exact hP _ _ _ N K ⟨b15, (by omega), rfl, V_b15⟩) (by decide) (by decide)
theorem ef10 (m : MethodId) (o0 : Nat) (x1 : Int32) : entryFrame m #[(.ref o0), (.int x1)] 3 = (mkF m 0 #[.val (.ref o0), .val (.int x1), .unset] []) := by first | (simp [entryFrame, mkF, argsToLocals, Value.category]; done) | rfl
theorem pd10 : parseMethodDescriptor "([BI)[B" = some ⟨[(.array .byte), .int], some (.array .byte)⟩ := by decide +kernel
theorem pn10 : plainFor (⟨"java/util/Arrays", "copyOf", "([BI)[B"⟩ : MethodName) = true := plainFor_of_name (by first | (simp [plainName, overriddenIn]; done) | decide +kernel)
theorem rm10 (l : Launch) (Z : State) (a0 : Array Value) (hw : ∀ d ∈ tables_1, d.before a0 Z = true) (n0 : Nat) (h0 : Heap) (Z0 : n0 ≤ h0.size) {o0 : Nat} {vs : List Int32}  (g_o0 : n0 ≤ o0) (V_o0 : own_AI Z h0 o0 .byte vs) (x1 : Int32)  (rr : (List Int32)) (hf : f10_0 vs x1 = some rr) :
    own_Met l Z (⟨"java/util/Arrays", "copyOf", "([BI)[B"⟩ : MethodName) jdk_65_method_121_code 3 (some (.array .byte)) [] rmR10 #[(.ref o0), (.int x1)] h0 (fun v h L => Fr n0 L ∧ Keep h0 h [] ∧ E10 Z h0 o0 vs rr v h) := by
  refine own_body pn10 ?_
  intro p e s m below meth c s₁ C X e0
  exact own_cast (ef10 m o0 x1) (b10_0 hw C Z0 rr (fun v h L a b c => ⟨a, b, c⟩) X e0 (Fr.nil n0) (Keep.refl h0 []) g_o0 V_o0 x1 hf)
theorem d57_0 : decode jdk_65_method_121_code 0 = .ok (.iload_n 1, 1) := by decide +kernel
theorem d57_1 : decode jdk_65_method_121_code 1 = .ok (.aload_n 0, 1) := by decide +kernel
theorem d57_2 : decode jdk_65_method_121_code 2 = .ok (.arraylength, 1) := by decide +kernel
theorem d57_3 : decode jdk_65_method_121_code 3 = .ok (.if_icmp .ne 11, 3) := by decide +kernel
theorem d57_6 : decode jdk_65_method_121_code 6 = .ok (.aload_n 0, 1) := by decide +kernel
theorem d57_7 : decode jdk_65_method_121_code 7 = .ok (.invokevirtual 310, 3) := by decide +kernel
theorem d57_10 : decode jdk_65_method_121_code 10 = .ok (.checkcast 311, 3) := by decide +kernel
theorem d57_13 : decode jdk_65_method_121_code 13 = .ok (.areturn, 1) := by decide +kernel
theorem d57_14 : decode jdk_65_method_121_code 14 = .ok (.iload_n 1, 1) := by decide +kernel
theorem d57_15 : decode jdk_65_method_121_code 15 = .ok (.newarray .byte, 2) := by decide +kernel
theorem d57_17 : decode jdk_65_method_121_code 17 = .ok (.astore_n 2, 1) := by decide +kernel
theorem d57_18 : decode jdk_65_method_121_code 18 = .ok (.aload_n 0, 1) := by decide +kernel
theorem d57_19 : decode jdk_65_method_121_code 19 = .ok (.iconst 0, 1) := by decide +kernel
theorem d57_20 : decode jdk_65_method_121_code 20 = .ok (.aload_n 2, 1) := by decide +kernel
theorem d57_21 : decode jdk_65_method_121_code 21 = .ok (.iconst 0, 1) := by decide +kernel
theorem d57_22 : decode jdk_65_method_121_code 22 = .ok (.aload_n 0, 1) := by decide +kernel
theorem d57_23 : decode jdk_65_method_121_code 23 = .ok (.arraylength, 1) := by decide +kernel
theorem d57_24 : decode jdk_65_method_121_code 24 = .ok (.iload_n 1, 1) := by decide +kernel
theorem d57_25 : decode jdk_65_method_121_code 25 = .ok (.invokestatic 304, 3) := by decide +kernel
theorem d57_28 : decode jdk_65_method_121_code 28 = .ok (.invokestatic 150, 3) := by decide +kernel
theorem d57_31 : decode jdk_65_method_121_code 31 = .ok (.aload_n 2, 1) := by decide +kernel
theorem d57_32 : decode jdk_65_method_121_code 32 = .ok (.areturn, 1) := by decide +kernel
def rmR57 : Room := { frames := 1, cells := 1, slots := 144, locals := 18 }
def E57 (Z : State) (h0 : Heap) (o0 : Nat) (vs : List Int32) (rr : (List Int32)) (v : Option Value) (h : Heap) : Prop := ∃ res, h0.size ≤ res ∧ v = some (.ref res) ∧ own_AI Z h res .byte rr
def f57_0 (vs : List Int32) (x1 : Int32) : Option ((List Int32)) := (if x1 = (Int32.ofNat vs.length) then (if 144 < vs.length then none else (some vs)) else (if x1 < 0 ∨ 144 < x1.toInt then none else ((own_copyL vs (0 : Int32) (List.replicate (x1).toNatClampNeg 0) (0 : Int32) (f11_0 (Int32.ofNat vs.length) x1)).bind fun u5 => (some u5))))
set_option maxRecDepth 65536 in
set_option maxHeartbeats 40000000 in
theorem b57_0 {p : Program} {l : Launch} {e : Env} {s : State} {m : MethodId} {args : Array Value} {below : List Frame} {meth : Method} {c : Code} {Z : State} {a0 : Array Value} {h0 : Heap} {n0 : Nat} {P : Option Value → Heap → List Loc → Prop} (hw : ∀ d ∈ tables_1, d.before a0 Z = true) (C : own_Ctx p s m meth c Z (⟨"java/util/Arrays", "copyOf", "([BI)[B"⟩ : MethodName) jdk_65_method_121_code 3 (some (.array .byte))) (Z0 : n0 ≤ h0.size) {o0 : Nat} {vs : List Int32} (rr : (List Int32)) (hP : ∀ v h L, Fr n0 L → Keep h0 h [] → E57 Z h0 o0 vs rr v h → P v h L)
    {T : State} {locs : List Loc} {h : Heap} (X : Stand p l e rmR57 s m args below meth c T locs 0 0) (e0 : T.heap = h) (N : Fr n0 locs) (K : Keep h0 h []) (g_o0 : n0 ≤ o0) (V_o0 : own_AI Z h o0 .byte vs) (x1 : Int32) (hv : f57_0 vs x1 = some rr) :
    own_WP p e below (own_Q s P rmR57.cells rmR57.slots) T (mkF m 0 #[.val (.ref o0), .val (.int x1), .unset] []) := by
  obtain ⟨hx, hZ, hby, hml, hown, hnm, hret, hlk⟩ := id C
  replace hown : s.vm.findClass "java/util/Arrays" = some m.cls := hown
  unfold f57_0 at hv
  show own_WP p e below _ T (mkF m 0 #[.val (.ref o0), .val (.int x1), .unset] [])
  refine own_go (fun _ => XS.iloadN X.here hx rfl (hb hby d57_0) rfl) ?_
  show own_WP p e below _ T (mkF m 1 #[.val (.ref o0), .val (.int x1), .unset] [(.int x1)])
  refine own_go (fun _ => XS.aloadN X.here hx rfl (hb hby d57_1) rfl rfl) ?_
  show own_WP p e below _ T (mkF m 2 #[.val (.ref o0), .val (.int x1), .unset] [(.ref o0), (.int x1)])
  refine own_go (own_lenI X C e0 V_o0 (hb hby d57_2)) ?_
  show own_WP p e below _ T (mkF m 3 #[.val (.ref o0), .val (.int x1), .unset] [(.int (Int32.ofNat vs.length)), (.int x1)])
  by_cases h3 : x1 = (Int32.ofNat vs.length)
  · replace hv := (if_pos h3).symm.trans hv
    refine own_go (fun _ => XS.icmpNo X.here hx rfl (hb hby d57_3) rfl (XT.ii_ne_f h3)) ?_
    show own_WP p e below _ T (mkF m 6 #[.val (.ref o0), .val (.int x1), .unset] [])
    refine own_go (fun _ => XS.aloadN X.here hx rfl (hb hby d57_6) rfl rfl) ?_
    show own_WP p e below _ T (mkF m 7 #[.val (.ref o0), .val (.int x1), .unset] [(.ref o0)])
    by_cases h7 : 144 < vs.length
    · cases ((if_pos h7).symm.trans hv)
    replace hv := (if_neg h7).symm.trans hv
    obtain ⟨T1, h1, b7, X1, e1, E1, hb_b7, V_b7, st1⟩ := own_clone X C e0 (ad := "[B") rfl (hw _ (List.mem_of_getElem? (i := 73) rfl)) (hw _ (List.mem_of_getElem? (i := 74) rfl)) (hw _ (List.mem_of_getElem? (i := 78) rfl)) (hw _ (List.mem_of_getElem? (i := 76) rfl)) (hw _ (List.mem_of_getElem? (i := 77) rfl)) (hw _ (List.mem_of_getElem? (i := 79) rfl)) V_o0 (pc := 7) (Ls := #[.val (.ref o0), .val (.int x1), .unset]) rfl (rest := []) (hb hby d57_7) (by decide) (W := 0) (cap := 144) (Nat.le_of_ble_eq_true rfl) (by decide) (Nat.le_of_not_lt h7) (by decide) (by decide)
    refine own_go st1 ?_
    have o_o0_b7 : o0 < b7 := by have q : o0 < h.size := V_o0.lt; omega
    have z_b7 : h0.size ≤ b7 := by have q := K.1; omega
    replace V_o0 := V_o0.ext E1
    replace K := K.ext E1
    show own_WP p e below _ T1 (mkF m 10 #[.val (.ref o0), .val (.int x1), .unset] [(.ref b7)])
    obtain ⟨T2, X2, e2, st2⟩ := own_castA X1 C e1 (ad := "[B") rfl (hw _ (List.mem_of_getElem? (i := 80) rfl)) V_b7 (pc := 10) (Ls := #[.val (.ref o0), .val (.int x1), .unset]) (rest := []) (hb hby d57_10)
    refine own_go st2 ?_
    show own_WP p e below _ T2 (mkF m 13 #[.val (.ref o0), .val (.int x1), .unset] [(.ref b7)])
    obtain rfl := Option.some.inj hv
    exact own_retA X2 C rfl (hb hby d57_13) (by rw [e2]; exact hP _ _ _ N K ⟨b7, (by omega), rfl, V_b7⟩) (by decide) (by decide)
  · replace hv := (if_neg h3).symm.trans hv
    refine own_go (fun _ => XS.icmpYes X.here hx rfl (pc0 := 3) (pc' := 14) rfl (hb hby d57_3) rfl (XT.ii_ne_t h3) (by decide) (by decide)) ?_
    show own_WP p e below _ T (mkF m 14 #[.val (.ref o0), .val (.int x1), .unset] [])
    refine own_go (fun _ => XS.iloadN X.here hx rfl (hb hby d57_14) rfl) ?_
    show own_WP p e below _ T (mkF m 15 #[.val (.ref o0), .val (.int x1), .unset] [(.int x1)])
    by_cases h15 : x1 < 0 ∨ 144 < x1.toInt
    · cases ((if_pos h15).symm.trans hv)
    replace hv := (if_neg h15).symm.trans hv
    obtain ⟨T3, h3, b15, X3, e3, E3, hb_b15, V_b15, st3⟩ := own_newI X C e0 (aty := .byte) (ty := .byte) rfl rfl rfl (hw _ (List.mem_of_getElem? (i := 0) rfl)) (n := x1) (fun q => h15 (Or.inl q)) (cap := 144) (own_cap (k := 144) rfl (fun q => h15 (Or.inr q))) (by decide) (by decide) (by decide) (pc := 15) (Ls := #[.val (.ref o0), .val (.int x1), .unset]) (rest := []) (hb hby d57_15)
    refine own_go st3 ?_
    have o_o0_b15 : o0 < b15 := by have q : o0 < h.size := V_o0.lt; omega
    have z_b15 : h0.size ≤ b15 := by have q := K.1; omega
    replace V_o0 := V_o0.ext E3
    replace K := K.ext E3
    show own_WP p e below _ T3 (mkF m 17 #[.val (.ref o0), .val (.int x1), .unset] [(.ref b15)])
    refine own_go (fun _ => XS.astoreN X3.here hx rfl (hb hby d57_17) rfl rfl (l' := #[.val (.ref o0), .val (.int x1), .val (.ref b15)]) rfl) ?_
    show own_WP p e below _ T3 (mkF m 18 #[.val (.ref o0), .val (.int x1), .val (.ref b15)] [])
    refine own_go (fun _ => XS.aloadN X3.here hx rfl (hb hby d57_18) rfl rfl) ?_
    show own_WP p e below _ T3 (mkF m 19 #[.val (.ref o0), .val (.int x1), .val (.ref b15)] [(.ref o0)])
    refine own_go (fun _ => XS.iconst X3.here hx rfl (hb hby d57_19)) ?_
    show own_WP p e below _ T3 (mkF m 20 #[.val (.ref o0), .val (.int x1), .val (.ref b15)] [(.int (0 : Int32)), (.ref o0)])
    refine own_go (fun _ => XS.aloadN X3.here hx rfl (hb hby d57_20) rfl rfl) ?_
    show own_WP p e below _ T3 (mkF m 21 #[.val (.ref o0), .val (.int x1), .val (.ref b15)] [(.ref b15), (.int (0 : Int32)), (.ref o0)])
    refine own_go (fun _ => XS.iconst X3.here hx rfl (hb hby d57_21)) ?_
    show own_WP p e below _ T3 (mkF m 22 #[.val (.ref o0), .val (.int x1), .val (.ref b15)] [(.int (0 : Int32)), (.ref b15), (.int (0 : Int32)), (.ref o0)])
    refine own_go (fun _ => XS.aloadN X3.here hx rfl (hb hby d57_22) rfl rfl) ?_
    show own_WP p e below _ T3 (mkF m 23 #[.val (.ref o0), .val (.int x1), .val (.ref b15)] [(.ref o0), (.int (0 : Int32)), (.ref b15), (.int (0 : Int32)), (.ref o0)])
    refine own_go (own_lenI X3 C e3 V_o0 (hb hby d57_23)) ?_
    show own_WP p e below _ T3 (mkF m 24 #[.val (.ref o0), .val (.int x1), .val (.ref b15)] [(.int (Int32.ofNat vs.length)), (.int (0 : Int32)), (.ref b15), (.int (0 : Int32)), (.ref o0)])
    refine own_go (fun _ => XS.iloadN X3.here hx rfl (hb hby d57_24) rfl) ?_
    show own_WP p e below _ T3 (mkF m 25 #[.val (.ref o0), .val (.int x1), .val (.ref b15)] [(.int x1), (.int (Int32.ofNat vs.length)), (.int (0 : Int32)), (.ref b15), (.int (0 : Int32)), (.ref o0)])
    obtain ⟨T4, v4, L4, X4, ⟨rfl, rfl, e4⟩, st4⟩ := own_callS X3 C (rm11 l Z a0 hw (Int32.ofNat vs.length) x1 h3) (hw _ (List.mem_of_getElem? (i := 56) rfl)) (hw _ (List.mem_of_getElem? (i := 57) rfl)) (hw _ (List.mem_of_getElem? (i := 58) rfl)) (hw _ (List.mem_of_getElem? (i := 59) rfl)) (by decide) e3 (W := 4) (pc := 25) (Ls := #[.val (.ref o0), .val (.int x1), .val (.ref b15)]) rfl (lenOf pd11 rfl) (rest := [(.int (0 : Int32)), (.ref b15), (.int (0 : Int32)), (.ref o0)]) (stk := [(.int x1), (.int (Int32.ofNat vs.length)), (.int (0 : Int32)), (.ref b15), (.int (0 : Int32)), (.ref o0)]) rfl (Nat.le_of_ble_eq_true rfl) (hb hby d57_25) (by decide) (by decide) (by decide) (by decide)
    rw [List.append_nil] at X4
    refine own_go st4 ?_
    show own_WP p e below _ T4 (mkF m 28 #[.val (.ref o0), .val (.int x1), .val (.ref b15)] [(.int (f11_0 (Int32.ofNat vs.length) x1)), (.int (0 : Int32)), (.ref b15), (.int (0 : Int32)), (.ref o0)])
    obtain ⟨u5, hg5, hv⟩ := own_bind hv
    obtain ⟨T5, h5, L5, X5, e5, N5, K5, V'5, st5⟩ := own_copy X4 C e4 (hw _ (List.mem_of_getElem? (i := 60) rfl)) (hw _ (List.mem_of_getElem? (i := 31) rfl)) (hw _ (List.mem_of_getElem? (i := 29) rfl)) (hw _ (List.mem_of_getElem? (i := 30) rfl)) rfl V_o0 V_b15 hg5 N (by omega) (pc := 28) (Ls := #[.val (.ref o0), .val (.int x1), .val (.ref b15)]) rfl (rest := []) (hb hby d57_28) (by decide) (W := 0) (Nat.le_of_ble_eq_true rfl) (by decide)
    refine own_go st5 ?_
    replace V_o0 := V_o0.keep K5 (ninS (own_ne (by omega)) nin0)
    replace V_b15 := V'5
    clear V'5
    replace N := N5
    replace K := K.trans K5 (allS (Or.inr (by omega)) all0)
    show own_WP p e below _ T5 (mkF m 31 #[.val (.ref o0), .val (.int x1), .val (.ref b15)] [])
    refine own_go (fun _ => XS.aloadN X5.here hx rfl (hb hby d57_31) rfl rfl) ?_
    show own_WP p e below _ T5 (mkF m 32 #[.val (.ref o0), .val (.int x1), .val (.ref b15)] [(.ref b15)])
    obtain rfl := Option.some.inj hv
    exact own_retA X5 C rfl (hb hby d57_32) (by rw [e5]; exact hP _ _ _ N K ⟨b15, (by omega), rfl, V_b15⟩) (by decide) (by decide)
theorem ef57 (m : MethodId) (o0 : Nat) (x1 : Int32) : entryFrame m #[(.ref o0), (.int x1)] 3 = (mkF m 0 #[.val (.ref o0), .val (.int x1), .unset] []) := by first | (simp [entryFrame, mkF, argsToLocals, Value.category]; done) | rfl
theorem pd57 : parseMethodDescriptor "([BI)[B" = some ⟨[(.array .byte), .int], some (.array .byte)⟩ := by decide +kernel
theorem pn57 : plainFor (⟨"java/util/Arrays", "copyOf", "([BI)[B"⟩ : MethodName) = true := plainFor_of_name (by first | (simp [plainName, overriddenIn]; done) | decide +kernel)
theorem rm57 (l : Launch) (Z : State) (a0 : Array Value) (hw : ∀ d ∈ tables_1, d.before a0 Z = true) (n0 : Nat) (h0 : Heap) (Z0 : n0 ≤ h0.size) {o0 : Nat} {vs : List Int32}  (g_o0 : n0 ≤ o0) (V_o0 : own_AI Z h0 o0 .byte vs) (x1 : Int32)  (rr : (List Int32)) (hf : f57_0 vs x1 = some rr) :
    own_Met l Z (⟨"java/util/Arrays", "copyOf", "([BI)[B"⟩ : MethodName) jdk_65_method_121_code 3 (some (.array .byte)) [] rmR57 #[(.ref o0), (.int x1)] h0 (fun v h L => Fr n0 L ∧ Keep h0 h [] ∧ E57 Z h0 o0 vs rr v h) := by
  refine own_body pn57 ?_
  intro p e s m below meth c s₁ C X e0
  exact own_cast (ef57 m o0 x1) (b57_0 hw C Z0 rr (fun v h L a b c => ⟨a, b, c⟩) X e0 (Fr.nil n0) (Keep.refl h0 []) g_o0 V_o0 x1 hf)
theorem d4_0 : decode prog_55_method_12_code 0 = .ok (.aload_n 0, 1) := by decide +kernel
theorem d4_1 : decode prog_55_method_12_code 1 = .ok (.getfield 13, 3) := by decide +kernel
theorem d4_4 : decode prog_55_method_12_code 4 = .ok (.iload_n 1, 1) := by decide +kernel
theorem d4_5 : decode prog_55_method_12_code 5 = .ok (.iadd, 1) := by decide +kernel
theorem d4_6 : decode prog_55_method_12_code 6 = .ok (.aload_n 0, 1) := by decide +kernel
theorem d4_7 : decode prog_55_method_12_code 7 = .ok (.getfield 7, 3) := by decide +kernel
theorem d4_10 : decode prog_55_method_12_code 10 = .ok (.arraylength, 1) := by decide +kernel
theorem d4_11 : decode prog_55_method_12_code 11 = .ok (.if_icmp .le 30, 3) := by decide +kernel
theorem d4_14 : decode prog_55_method_12_code 14 = .ok (.aload_n 0, 1) := by decide +kernel
theorem d4_15 : decode prog_55_method_12_code 15 = .ok (.aload_n 0, 1) := by decide +kernel
theorem d4_16 : decode prog_55_method_12_code 16 = .ok (.getfield 7, 3) := by decide +kernel
theorem d4_19 : decode prog_55_method_12_code 19 = .ok (.aload_n 0, 1) := by decide +kernel
theorem d4_20 : decode prog_55_method_12_code 20 = .ok (.getfield 7, 3) := by decide +kernel
theorem d4_23 : decode prog_55_method_12_code 23 = .ok (.arraylength, 1) := by decide +kernel
theorem d4_24 : decode prog_55_method_12_code 24 = .ok (.iconst 2, 1) := by decide +kernel
theorem d4_25 : decode prog_55_method_12_code 25 = .ok (.imul, 1) := by decide +kernel
theorem d4_26 : decode prog_55_method_12_code 26 = .ok (.aload_n 0, 1) := by decide +kernel
theorem d4_27 : decode prog_55_method_12_code 27 = .ok (.getfield 13, 3) := by decide +kernel
theorem d4_30 : decode prog_55_method_12_code 30 = .ok (.iload_n 1, 1) := by decide +kernel
theorem d4_31 : decode prog_55_method_12_code 31 = .ok (.iadd, 1) := by decide +kernel
theorem d4_32 : decode prog_55_method_12_code 32 = .ok (.invokestatic 53, 3) := by decide +kernel
theorem d4_35 : decode prog_55_method_12_code 35 = .ok (.invokestatic 47, 3) := by decide +kernel
theorem d4_38 : decode prog_55_method_12_code 38 = .ok (.putfield 7, 3) := by decide +kernel
theorem d4_41 : decode prog_55_method_12_code 41 = .ok (.return_, 1) := by decide +kernel
def rmR4 : Room := { frames := 2, cells := 1, slots := 256, locals := 33 }
def E4 (Z : State) (h0 : Heap) (o0 : Nat) (da : Nat) (vs : List Int32) (rr : Int32 × (List Int32)) (v : Option Value) (h : Heap) : Prop := ∃ dd, (dd = da ∨ h0.size ≤ dd) ∧ v = none ∧ Exa Z h o0 "com/example/objwire/objwire/ndr/NdrWriter" ∧ Fld Z h o0 "com/example/objwire/objwire/ndr/NdrWriter" "data" "[B" (.ref dd) ∧ Fld Z h o0 "com/example/objwire/objwire/ndr/NdrWriter" "size" "I" (.int (rr.1)) ∧ own_AI Z h dd .byte (rr.2)
def f4_0 (vs : List Int32) (c_o0_size : Int32) (x1 : Int32) : Option (Int32 × (List Int32)) := (if (Int32.ofNat vs.length) < (c_o0_size + x1) then ((f10_0 vs (f14_0 ((Int32.ofNat vs.length) * (2 : Int32)) (c_o0_size + x1))).bind fun rr7 => (some (c_o0_size, rr7))) else (some (c_o0_size, vs)))
set_option maxRecDepth 65536 in
set_option maxHeartbeats 40000000 in
theorem b4_0 {p : Program} {l : Launch} {e : Env} {s : State} {m : MethodId} {args : Array Value} {below : List Frame} {meth : Method} {c : Code} {Z : State} {a0 : Array Value} {h0 : Heap} {n0 : Nat} {P : Option Value → Heap → List Loc → Prop} (hw : ∀ d ∈ tables_1, d.before a0 Z = true) (C : own_Ctx p s m meth c Z (⟨"com/example/objwire/objwire/ndr/NdrWriter", "ensure", "(I)V"⟩ : MethodName) prog_55_method_12_code 2 none) (Z0 : n0 ≤ h0.size) {o0 : Nat} {da : Nat} {vs : List Int32} (rr : Int32 × (List Int32)) (hP : ∀ v h L, Fr n0 L → Keep h0 h [o0, da] → E4 Z h0 o0 da vs rr v h → P v h L)
    {T : State} {locs : List Loc} {h : Heap} {c_o0_size : Int32} (X : Stand p l e rmR4 s m args below meth c T locs 0 0) (e0 : T.heap = h) (N : Fr n0 locs) (K : Keep h0 h [o0, da]) (o_o0_da : o0 < da) (g_o0 : n0 ≤ o0) (E_o0 : Exa Z h o0 "com/example/objwire/objwire/ndr/NdrWriter") (F_o0_data : Fld Z h o0 "com/example/objwire/objwire/ndr/NdrWriter" "data" "[B" (.ref da)) (F_o0_size : Fld Z h o0 "com/example/objwire/objwire/ndr/NdrWriter" "size" "I" (.int c_o0_size)) (V_da : own_AI Z h da .byte vs) (x1 : Int32) (hv : f4_0 vs c_o0_size x1 = some rr) :
    own_WP p e below (own_Q s P rmR4.cells rmR4.slots) T (mkF m 0 #[.val (.ref o0), .val (.int x1)] []) := by
  obtain ⟨hx, hZ, hby, hml, hown, hnm, hret, hlk⟩ := id C
  replace hown : s.vm.findClass "com/example/objwire/objwire/ndr/NdrWriter" = some m.cls := hown
  unfold f4_0 at hv
  show own_WP p e below _ T (mkF m 0 #[.val (.ref o0), .val (.int x1)] [])
  refine own_go (fun _ => XS.aloadN X.here hx rfl (hb hby d4_0) rfl rfl) ?_
  show own_WP p e below _ T (mkF m 1 #[.val (.ref o0), .val (.int x1)] [(.ref o0)])
  obtain ⟨T1, X1, e1, st1⟩ := getF X hx hZ hown (host := "") (Or.inl (hw _ (List.mem_of_getElem? (i := 21) rfl))) Via.refl e0 F_o0_size (g := (mkF m 1 #[.val (.ref o0), .val (.int x1)] [(.ref o0)])) rfl rfl (hb hby d4_1)
  refine own_go st1 ?_
  show own_WP p e below _ T1 (mkF m 4 #[.val (.ref o0), .val (.int x1)] [(.int c_o0_size)])
  refine own_go (fun _ => XS.iloadN X1.here hx rfl (hb hby d4_4) rfl) ?_
  show own_WP p e below _ T1 (mkF m 5 #[.val (.ref o0), .val (.int x1)] [(.int x1), (.int c_o0_size)])
  refine own_go (fun _ => XS.iadd X1.here hx rfl (hb hby d4_5) rfl) ?_
  show own_WP p e below _ T1 (mkF m 6 #[.val (.ref o0), .val (.int x1)] [(.int (c_o0_size + x1))])
  refine own_go (fun _ => XS.aloadN X1.here hx rfl (hb hby d4_6) rfl rfl) ?_
  show own_WP p e below _ T1 (mkF m 7 #[.val (.ref o0), .val (.int x1)] [(.ref o0), (.int (c_o0_size + x1))])
  obtain ⟨T2, X2, e2, st2⟩ := getF X1 hx hZ hown (host := "") (Or.inl (hw _ (List.mem_of_getElem? (i := 10) rfl))) Via.refl e1 F_o0_data (g := (mkF m 7 #[.val (.ref o0), .val (.int x1)] [(.ref o0), (.int (c_o0_size + x1))])) rfl rfl (hb hby d4_7)
  refine own_go st2 ?_
  show own_WP p e below _ T2 (mkF m 10 #[.val (.ref o0), .val (.int x1)] [(.ref da), (.int (c_o0_size + x1))])
  refine own_go (own_lenI X2 C e2 V_da (hb hby d4_10)) ?_
  show own_WP p e below _ T2 (mkF m 11 #[.val (.ref o0), .val (.int x1)] [(.int (Int32.ofNat vs.length)), (.int (c_o0_size + x1))])
  by_cases h11 : (Int32.ofNat vs.length) < (c_o0_size + x1)
  · replace hv := (if_pos h11).symm.trans hv
    refine own_go (fun _ => XS.icmpNo X2.here hx rfl (hb hby d4_11) rfl (XT.ii_le_f h11)) ?_
    show own_WP p e below _ T2 (mkF m 14 #[.val (.ref o0), .val (.int x1)] [])
    refine own_go (fun _ => XS.aloadN X2.here hx rfl (hb hby d4_14) rfl rfl) ?_
    show own_WP p e below _ T2 (mkF m 15 #[.val (.ref o0), .val (.int x1)] [(.ref o0)])
    refine own_go (fun _ => XS.aloadN X2.here hx rfl (hb hby d4_15) rfl rfl) ?_
    show own_WP p e below _ T2 (mkF m 16 #[.val (.ref o0), .val (.int x1)] [(.ref o0), (.ref o0)])
    obtain ⟨T3, X3, e3, st3⟩ := getF X2 hx hZ hown (host := "") (Or.inl (hw _ (List.mem_of_getElem? (i := 10) rfl))) Via.refl e2 F_o0_data (g := (mkF m 16 #[.val (.ref o0), .val (.int x1)] [(.ref o0), (.ref o0)])) rfl rfl (hb hby d4_16)
    refine own_go st3 ?_
    show own_WP p e below _ T3 (mkF m 19 #[.val (.ref o0), .val (.int x1)] [(.ref da), (.ref o0)])
    refine own_go (fun _ => XS.aloadN X3.here hx rfl (hb hby d4_19) rfl rfl) ?_
    show own_WP p e below _ T3 (mkF m 20 #[.val (.ref o0), .val (.int x1)] [(.ref o0), (.ref da), (.ref o0)])
    obtain ⟨T4, X4, e4, st4⟩ := getF X3 hx hZ hown (host := "") (Or.inl (hw _ (List.mem_of_getElem? (i := 10) rfl))) Via.refl e3 F_o0_data (g := (mkF m 20 #[.val (.ref o0), .val (.int x1)] [(.ref o0), (.ref da), (.ref o0)])) rfl rfl (hb hby d4_20)
    refine own_go st4 ?_
    show own_WP p e below _ T4 (mkF m 23 #[.val (.ref o0), .val (.int x1)] [(.ref da), (.ref da), (.ref o0)])
    refine own_go (own_lenI X4 C e4 V_da (hb hby d4_23)) ?_
    show own_WP p e below _ T4 (mkF m 24 #[.val (.ref o0), .val (.int x1)] [(.int (Int32.ofNat vs.length)), (.ref da), (.ref o0)])
    refine own_go (fun _ => XS.iconst X4.here hx rfl (hb hby d4_24)) ?_
    show own_WP p e below _ T4 (mkF m 25 #[.val (.ref o0), .val (.int x1)] [(.int (2 : Int32)), (.int (Int32.ofNat vs.length)), (.ref da), (.ref o0)])
    refine own_go (fun _ => XS.imul X4.here hx rfl (hb hby d4_25) rfl) ?_
    show own_WP p e below _ T4 (mkF m 26 #[.val (.ref o0), .val (.int x1)] [(.int ((Int32.ofNat vs.length) * (2 : Int32))), (.ref da), (.ref o0)])
    refine own_go (fun _ => XS.aloadN X4.here hx rfl (hb hby d4_26) rfl rfl) ?_
    show own_WP p e below _ T4 (mkF m 27 #[.val (.ref o0), .val (.int x1)] [(.ref o0), (.int ((Int32.ofNat vs.length) * (2 : Int32))), (.ref da), (.ref o0)])
    obtain ⟨T5, X5, e5, st5⟩ := getF X4 hx hZ hown (host := "") (Or.inl (hw _ (List.mem_of_getElem? (i := 21) rfl))) Via.refl e4 F_o0_size (g := (mkF m 27 #[.val (.ref o0), .val (.int x1)] [(.ref o0), (.int ((Int32.ofNat vs.length) * (2 : Int32))), (.ref da), (.ref o0)])) rfl rfl (hb hby d4_27)
    refine own_go st5 ?_
    show own_WP p e below _ T5 (mkF m 30 #[.val (.ref o0), .val (.int x1)] [(.int c_o0_size), (.int ((Int32.ofNat vs.length) * (2 : Int32))), (.ref da), (.ref o0)])
    refine own_go (fun _ => XS.iloadN X5.here hx rfl (hb hby d4_30) rfl) ?_
    show own_WP p e below _ T5 (mkF m 31 #[.val (.ref o0), .val (.int x1)] [(.int x1), (.int c_o0_size), (.int ((Int32.ofNat vs.length) * (2 : Int32))), (.ref da), (.ref o0)])
    refine own_go (fun _ => XS.iadd X5.here hx rfl (hb hby d4_31) rfl) ?_
    show own_WP p e below _ T5 (mkF m 32 #[.val (.ref o0), .val (.int x1)] [(.int (c_o0_size + x1)), (.int ((Int32.ofNat vs.length) * (2 : Int32))), (.ref da), (.ref o0)])
    obtain ⟨T6, v6, L6, X6, ⟨rfl, rfl, e6⟩, st6⟩ := own_callS X5 C (rm14 l Z a0 hw ((Int32.ofNat vs.length) * (2 : Int32)) (c_o0_size + x1) h) (hw _ (List.mem_of_getElem? (i := 70) rfl)) (hw _ (List.mem_of_getElem? (i := 71) rfl)) (hw _ (List.mem_of_getElem? (i := 58) rfl)) (hw _ (List.mem_of_getElem? (i := 72) rfl)) (by decide) e5 (W := 2) (pc := 32) (Ls := #[.val (.ref o0), .val (.int x1)]) rfl (lenOf pd14 rfl) (rest := [(.ref da), (.ref o0)]) (stk := [(.int (c_o0_size + x1)), (.int ((Int32.ofNat vs.length) * (2 : Int32))), (.ref da), (.ref o0)]) rfl (Nat.le_of_ble_eq_true rfl) (hb hby d4_32) (by decide) (by decide) (by decide) (by decide)
    rw [List.append_nil] at X6
    refine own_go st6 ?_
    show own_WP p e below _ T6 (mkF m 35 #[.val (.ref o0), .val (.int x1)] [(.int (f14_0 ((Int32.ofNat vs.length) * (2 : Int32)) (c_o0_size + x1))), (.ref da), (.ref o0)])
    obtain ⟨rr7, hf7, hv⟩ := own_bind hv
    obtain ⟨T7, v7, L7, X7, ⟨N7, K7, Q7⟩, st7⟩ := own_callS X6 C (argsL := [(.ref da), (.int (f14_0 ((Int32.ofNat vs.length) * (2 : Int32)) (c_o0_size + x1)))]) (rm10 l Z a0 hw n0 h (by have q := K.1; omega) (by omega) V_da (f14_0 ((Int32.ofNat vs.length) * (2 : Int32)) (c_o0_size + x1)) rr7 hf7) (hw _ (List.mem_of_getElem? (i := 52) rfl)) (hw _ (List.mem_of_getElem? (i := 53) rfl)) (hw _ (List.mem_of_getElem? (i := 54) rfl)) (hw _ (List.mem_of_getElem? (i := 55) rfl)) (by decide) e6 (W := 1) (pc := 35) (Ls := #[.val (.ref o0), .val (.int x1)]) rfl (lenOf pd10 rfl) (rest := [(.ref o0)]) (stk := [(.int (f14_0 ((Int32.ofNat vs.length) * (2 : Int32)) (c_o0_size + x1))), (.ref da), (.ref o0)]) rfl (Nat.le_of_ble_eq_true rfl) (hb hby d4_35) (by decide) (by decide) (by decide) (by decide)
    replace N := Fr.app N N7
    have lt7 : da < h.size := V_da.lt
    replace E_o0 := E_o0.keep K7
    replace F_o0_data := F_o0_data.keep K7 nin0
    replace F_o0_size := F_o0_size.keep K7 nin0
    replace V_da := V_da.keep K7 nin0
    obtain ⟨b35, zz7, rfl, V_b35⟩ := Q7
    have o_da_b35 : da < b35 := by omega
    have z_b35 : h0.size ≤ b35 := by have q := K.1; omega
    replace K := K.trans K7 all0
    refine own_go st7 ?_
    show own_WP p e below _ T7 (mkF m 38 #[.val (.ref o0), .val (.int x1)] [(.ref b35), (.ref o0)])
    obtain ⟨T8, h8, X8, e8, W8, st8⟩ := putF X7 hx hZ hown (host := "") (Or.inl (hw _ (List.mem_of_getElem? (i := 10) rfl))) Via.refl (rfl : T7.heap = T7.heap) F_o0_data E_o0 (Or.inl (hw _ (List.mem_of_getElem? (i := 11) rfl))) (hw _ (List.mem_of_getElem? (i := 2) rfl)) (ty := (.array .byte)) (by decide) rfl rfl (g := (mkF m 38 #[.val (.ref o0), .val (.int x1)] [(.ref b35), (.ref o0)])) rfl rfl (hb hby d4_38)
    refine own_go st8 ?_
    replace E_o0 := E_o0.wr W8
    replace F_o0_data := F_o0_data.same W8
    replace F_o0_size := F_o0_size.other W8 (Or.inr (slot_ne (Or.inl (hw _ (List.mem_of_getElem? (i := 22) rfl))) (Or.inl (hw _ (List.mem_of_getElem? (i := 11) rfl))) (by decide) (t := .int) (t' := (.array .byte)) (by decide) (by decide)))
    replace V_da := V_da.other W8 (own_ne (by omega))
    replace V_b35 := V_b35.other W8 (own_ne (by omega))
    replace K := K.wr W8 (Or.inl (List.mem_of_getElem? (i := 0) rfl))
    replace N := Fr.snoc X8 N (by omega)
    show own_WP p e below _ T8 (mkF m 41 #[.val (.ref o0), .val (.int x1)] [])
    obtain rfl := Option.some.inj hv
    exact own_retV X8 C (hb hby d4_41) (by rw [e8]; exact hP _ _ _ N K ⟨b35, (Or.inr (by omega)), rfl, E_o0, F_o0_data, F_o0_size, V_b35⟩) (by decide) (by decide)
  · replace hv := (if_neg h11).symm.trans hv
    refine own_go (fun _ => XS.icmpYes X2.here hx rfl (pc0 := 11) (pc' := 41) rfl (hb hby d4_11) rfl (XT.ii_le_t h11) (by decide) (by decide)) ?_
    show own_WP p e below _ T2 (mkF m 41 #[.val (.ref o0), .val (.int x1)] [])
    obtain rfl := Option.some.inj hv
    exact own_retV X2 C (hb hby d4_41) (by rw [e2]; exact hP _ _ _ N K ⟨da, (Or.inl rfl), rfl, E_o0, F_o0_data, F_o0_size, V_da⟩) (by decide) (by decide)
theorem ef4 (m : MethodId) (o0 : Nat) (x1 : Int32) : entryFrame m #[(.ref o0), (.int x1)] 2 = (mkF m 0 #[.val (.ref o0), .val (.int x1)] []) := by first | (simp [entryFrame, mkF, argsToLocals, Value.category]; done) | rfl
theorem pd4 : parseMethodDescriptor "(I)V" = some ⟨[.int], none⟩ := by decide +kernel
theorem pn4 : plainFor (⟨"com/example/objwire/objwire/ndr/NdrWriter", "ensure", "(I)V"⟩ : MethodName) = true := plainFor_of_name (by first | (simp [plainName, overriddenIn]; done) | decide +kernel)
theorem rm4 (l : Launch) (Z : State) (a0 : Array Value) (hw : ∀ d ∈ tables_1, d.before a0 Z = true) (n0 : Nat) (h0 : Heap) (Z0 : n0 ≤ h0.size) {o0 : Nat} {da : Nat} {vs : List Int32} {c_o0_size : Int32} (o_o0_da : o0 < da) (g_o0 : n0 ≤ o0) (E_o0 : Exa Z h0 o0 "com/example/objwire/objwire/ndr/NdrWriter") (F_o0_data : Fld Z h0 o0 "com/example/objwire/objwire/ndr/NdrWriter" "data" "[B" (.ref da)) (F_o0_size : Fld Z h0 o0 "com/example/objwire/objwire/ndr/NdrWriter" "size" "I" (.int c_o0_size)) (V_da : own_AI Z h0 da .byte vs) (x1 : Int32)  (rr : Int32 × (List Int32)) (hf : f4_0 vs c_o0_size x1 = some rr) :
    own_Met l Z (⟨"com/example/objwire/objwire/ndr/NdrWriter", "ensure", "(I)V"⟩ : MethodName) prog_55_method_12_code 2 none [] rmR4 #[(.ref o0), (.int x1)] h0 (fun v h L => Fr n0 L ∧ Keep h0 h [o0, da] ∧ E4 Z h0 o0 da vs rr v h) := by
  refine own_body pn4 ?_
  intro p e s m below meth c s₁ C X e0
  exact own_cast (ef4 m o0 x1) (b4_0 hw C Z0 rr (fun v h L a b c => ⟨a, b, c⟩) X e0 (Fr.nil n0) (Keep.refl h0 [o0, da]) o_o0_da g_o0 E_o0 F_o0_data F_o0_size V_da x1 hf)
theorem d3_0 : decode prog_55_method_3_code 0 = .ok (.aload_n 0, 1) := by decide +kernel
theorem d3_1 : decode prog_55_method_3_code 1 = .ok (.iconst 1, 1) := by decide +kernel
theorem d3_2 : decode prog_55_method_3_code 2 = .ok (.invokevirtual 17, 3) := by decide +kernel
theorem d3_5 : decode prog_55_method_3_code 5 = .ok (.aload_n 0, 1) := by decide +kernel
theorem d3_6 : decode prog_55_method_3_code 6 = .ok (.getfield 7, 3) := by decide +kernel
theorem d3_9 : decode prog_55_method_3_code 9 = .ok (.aload_n 0, 1) := by decide +kernel
theorem d3_10 : decode prog_55_method_3_code 10 = .ok (.dup, 1) := by decide +kernel
theorem d3_11 : decode prog_55_method_3_code 11 = .ok (.getfield 13, 3) := by decide +kernel
theorem d3_14 : decode prog_55_method_3_code 14 = .ok (.dup_x1, 1) := by decide +kernel
theorem d3_15 : decode prog_55_method_3_code 15 = .ok (.iconst 1, 1) := by decide +kernel
theorem d3_16 : decode prog_55_method_3_code 16 = .ok (.iadd, 1) := by decide +kernel
theorem d3_17 : decode prog_55_method_3_code 17 = .ok (.putfield 13, 3) := by decide +kernel
theorem d3_20 : decode prog_55_method_3_code 20 = .ok (.iload_n 1, 1) := by decide +kernel
theorem d3_21 : decode prog_55_method_3_code 21 = .ok (.i2b, 1) := by decide +kernel
theorem d3_22 : decode prog_55_method_3_code 22 = .ok (.bastore, 1) := by decide +kernel
theorem d3_23 : decode prog_55_method_3_code 23 = .ok (.aload_n 0, 1) := by decide +kernel
theorem d3_24 : decode prog_55_method_3_code 24 = .ok (.areturn, 1) := by decide +kernel
def rmR3 : Room := { frames := 3, cells := 1, slots := 256, locals := 46 }
def E3 (Z : State) (h0 : Heap) (o0 : Nat) (da : Nat) (vs : List Int32) (rr : Int32 × (List Int32)) (v : Option Value) (h : Heap) : Prop := ∃ dd, (dd = da ∨ h0.size ≤ dd) ∧ v = some (.ref o0) ∧ Exa Z h o0 "com/example/objwire/objwire/ndr/NdrWriter" ∧ Fld Z h o0 "com/example/objwire/objwire/ndr/NdrWriter" "data" "[B" (.ref dd) ∧ Fld Z h o0 "com/example/objwire/objwire/ndr/NdrWriter" "size" "I" (.int (rr.1)) ∧ own_AI Z h dd .byte (rr.2)
def f3_0 (vs : List Int32) (c_o0_size : Int32) (x1 : Int32) : Option (Int32 × (List Int32)) := ((f4_0 vs c_o0_size (1 : Int32)).bind fun rr1 => ((own_set (rr1.2) (rr1.1) ((x1.toInt8.toInt32).toInt8.toInt32)).bind fun u5 => (some (((rr1.1) + (1 : Int32)), u5))))
set_option maxRecDepth 65536 in
set_option maxHeartbeats 40000000 in
theorem b3_0 {p : Program} {l : Launch} {e : Env} {s : State} {m : MethodId} {args : Array Value} {below : List Frame} {meth : Method} {c : Code} {Z : State} {a0 : Array Value} {h0 : Heap} {n0 : Nat} {P : Option Value → Heap → List Loc → Prop} (hw : ∀ d ∈ tables_1, d.before a0 Z = true) (C : own_Ctx p s m meth c Z (⟨"com/example/objwire/objwire/ndr/NdrWriter", "writeU8", "(I)Lcom/example/objwire/objwire/ndr/NdrWriter;"⟩ : MethodName) prog_55_method_3_code 2 (some (.object "com/example/objwire/objwire/ndr/NdrWriter"))) (Z0 : n0 ≤ h0.size) {o0 : Nat} {da : Nat} {vs : List Int32} (rr : Int32 × (List Int32)) (hP : ∀ v h L, Fr n0 L → Keep h0 h [o0, da] → E3 Z h0 o0 da vs rr v h → P v h L)
    {T : State} {locs : List Loc} {h : Heap} {c_o0_size : Int32} (X : Stand p l e rmR3 s m args below meth c T locs 0 0) (e0 : T.heap = h) (N : Fr n0 locs) (K : Keep h0 h [o0, da]) (o_o0_da : o0 < da) (g_o0 : n0 ≤ o0) (E_o0 : Exa Z h o0 "com/example/objwire/objwire/ndr/NdrWriter") (F_o0_data : Fld Z h o0 "com/example/objwire/objwire/ndr/NdrWriter" "data" "[B" (.ref da)) (F_o0_size : Fld Z h o0 "com/example/objwire/objwire/ndr/NdrWriter" "size" "I" (.int c_o0_size)) (V_da : own_AI Z h da .byte vs) (x1 : Int32) (hv : f3_0 vs c_o0_size x1 = some rr) :
    own_WP p e below (own_Q s P rmR3.cells rmR3.slots) T (mkF m 0 #[.val (.ref o0), .val (.int x1)] []) := by
  obtain ⟨hx, hZ, hby, hml, hown, hnm, hret, hlk⟩ := id C
  replace hown : s.vm.findClass "com/example/objwire/objwire/ndr/NdrWriter" = some m.cls := hown
  unfold f3_0 at hv
  show own_WP p e below _ T (mkF m 0 #[.val (.ref o0), .val (.int x1)] [])
  refine own_go (fun _ => XS.aloadN X.here hx rfl (hb hby d3_0) rfl rfl) ?_
  show own_WP p e below _ T (mkF m 1 #[.val (.ref o0), .val (.int x1)] [(.ref o0)])
  refine own_go (fun _ => XS.iconst X.here hx rfl (hb hby d3_1)) ?_
  show own_WP p e below _ T (mkF m 2 #[.val (.ref o0), .val (.int x1)] [(.int (1 : Int32)), (.ref o0)])
  obtain ⟨rr1, hf1, hv⟩ := own_bind hv
  obtain ⟨T1, v1, L1, X1, ⟨N1, K1, Q1⟩, st1⟩ := own_callR X C (a := o0) (argsL := [(.int (1 : Int32))]) (rm4 l Z a0 hw n0 h (by have q := K.1; omega) (by omega) (by omega) E_o0 F_o0_data F_o0_size V_da (1 : Int32) rr1 hf1) (hw _ (List.mem_of_getElem? (i := 17) rfl)) (own_selP (y2 := (⟨"com/example/objwire/objwire/ndr/NdrWriter", "writeU8", "(I)Lcom/example/objwire/objwire/ndr/NdrWriter;"⟩ : MethodName)) rfl (hw _ (List.mem_of_getElem? (i := 15) rfl)) (hw _ (List.mem_of_getElem? (i := 18) rfl)) (hw _ (List.mem_of_getElem? (i := 19) rfl)) (by decide)) (hw _ (List.mem_of_getElem? (i := 19) rfl)) (hw _ (List.mem_of_getElem? (i := 18) rfl)) (hw _ (List.mem_of_getElem? (i := 3) rfl)) (hw _ (List.mem_of_getElem? (i := 20) rfl)) (by decide) e0 E_o0 (W := 0) (pc := 2) (Ls := #[.val (.ref o0), .val (.int x1)]) rfl (lenOf pd4 rfl) (rest := []) (stk := [(.int (1 : Int32)), (.ref o0)]) rfl (Nat.le_of_ble_eq_true rfl) (hb hby d3_2) (by decide) (by decide) (by decide) (by decide)
  replace N := Fr.app N N1
  have lt1 : da < h.size := V_da.lt
  have kz1 := K.1
  clear E_o0
  clear F_o0_data
  clear F_o0_size
  clear V_da
  obtain ⟨b2, zz1, rfl, E_o0, F_o0_data, F_o0_size, V_b2⟩ := Q1
  have o_o0_b2 : o0 < b2 := by omega
  have m_b2 : b2 = da ∨ h0.size ≤ b2 := zz1.elim Or.inl (fun q => Or.inr (by omega))
  replace K := K.trans K1 (allS (Or.inl (List.mem_of_getElem? (i := 0) rfl)) (allS (Or.inl (List.mem_of_getElem? (i := 1) rfl)) all0))
  refine own_go st1 ?_
  show own_WP p e below _ T1 (mkF m 5 #[.val (.ref o0), .val (.int x1)] [])
  refine own_go (fun _ => XS.aloadN X1.here hx rfl (hb hby d3_5) rfl rfl) ?_
  show own_WP p e below _ T1 (mkF m 6 #[.val (.ref o0), .val (.int x1)] [(.ref o0)])
  obtain ⟨T2, X2, e2, st2⟩ := getF X1 hx hZ hown (host := "") (Or.inl (hw _ (List.mem_of_getElem? (i := 10) rfl))) Via.refl (rfl : T1.heap = T1.heap) F_o0_data (g := (mkF m 6 #[.val (.ref o0), .val (.int x1)] [(.ref o0)])) rfl rfl (hb hby d3_6)
  refine own_go st2 ?_
  show own_WP p e below _ T2 (mkF m 9 #[.val (.ref o0), .val (.int x1)] [(.ref b2)])
  refine own_go (fun _ => XS.aloadN X2.here hx rfl (hb hby d3_9) rfl rfl) ?_
  show own_WP p e below _ T2 (mkF m 10 #[.val (.ref o0), .val (.int x1)] [(.ref o0), (.ref b2)])
  refine own_go (fun _ => XS.dup X2.here hx rfl (hb hby d3_10) rfl rfl) ?_
  show own_WP p e below _ T2 (mkF m 11 #[.val (.ref o0), .val (.int x1)] [(.ref o0), (.ref o0), (.ref b2)])
  obtain ⟨T3, X3, e3, st3⟩ := getF X2 hx hZ hown (host := "") (Or.inl (hw _ (List.mem_of_getElem? (i := 21) rfl))) Via.refl e2 F_o0_size (g := (mkF m 11 #[.val (.ref o0), .val (.int x1)] [(.ref o0), (.ref o0), (.ref b2)])) rfl rfl (hb hby d3_11)
  refine own_go st3 ?_
  show own_WP p e below _ T3 (mkF m 14 #[.val (.ref o0), .val (.int x1)] [(.int (rr1.1)), (.ref o0), (.ref b2)])
  refine own_go (fun _ => XS.dupX1 X3.here hx rfl (hb hby d3_14) rfl rfl rfl) ?_
  show own_WP p e below _ T3 (mkF m 15 #[.val (.ref o0), .val (.int x1)] [(.int (rr1.1)), (.ref o0), (.int (rr1.1)), (.ref b2)])
  refine own_go (fun _ => XS.iconst X3.here hx rfl (hb hby d3_15)) ?_
  show own_WP p e below _ T3 (mkF m 16 #[.val (.ref o0), .val (.int x1)] [(.int (1 : Int32)), (.int (rr1.1)), (.ref o0), (.int (rr1.1)), (.ref b2)])
  refine own_go (fun _ => XS.iadd X3.here hx rfl (hb hby d3_16) rfl) ?_
  show own_WP p e below _ T3 (mkF m 17 #[.val (.ref o0), .val (.int x1)] [(.int ((rr1.1) + (1 : Int32))), (.ref o0), (.int (rr1.1)), (.ref b2)])
  obtain ⟨T4, h4, X4, e4, W4, st4⟩ := putF X3 hx hZ hown (host := "") (Or.inl (hw _ (List.mem_of_getElem? (i := 21) rfl))) Via.refl e3 F_o0_size E_o0 (Or.inl (hw _ (List.mem_of_getElem? (i := 22) rfl))) (hw _ (List.mem_of_getElem? (i := 2) rfl)) (ty := .int) (by decide) rfl rfl (g := (mkF m 17 #[.val (.ref o0), .val (.int x1)] [(.int ((rr1.1) + (1 : Int32))), (.ref o0), (.int (rr1.1)), (.ref b2)])) rfl rfl (hb hby d3_17)
  refine own_go st4 ?_
  replace E_o0 := E_o0.wr W4
  replace F_o0_data := F_o0_data.other W4 (Or.inr (slot_ne (Or.inl (hw _ (List.mem_of_getElem? (i := 11) rfl))) (Or.inl (hw _ (List.mem_of_getElem? (i := 22) rfl))) (by decide) (t := (.array .byte)) (t' := .int) (by decide) (by decide)))
  replace F_o0_size := F_o0_size.same W4
  replace V_b2 := V_b2.other W4 (own_ne (by omega))
  replace K := K.wr W4 (Or.inl (List.mem_of_getElem? (i := 0) rfl))
  replace N := Fr.snoc X4 N (by omega)
  show own_WP p e below _ T4 (mkF m 20 #[.val (.ref o0), .val (.int x1)] [(.int (rr1.1)), (.ref b2)])
  refine own_go (fun _ => XS.iloadN X4.here hx rfl (hb hby d3_20) rfl) ?_
  show own_WP p e below _ T4 (mkF m 21 #[.val (.ref o0), .val (.int x1)] [(.int x1), (.int (rr1.1)), (.ref b2)])
  refine own_go (fun _ => XS.i2b X4.here hx rfl (hb hby d3_21) rfl) ?_
  show own_WP p e below _ T4 (mkF m 22 #[.val (.ref o0), .val (.int x1)] [(.int (x1.toInt8.toInt32)), (.int (rr1.1)), (.ref b2)])
  obtain ⟨u5, hg5, hv⟩ := own_bind hv
  obtain ⟨T5, h5, X5, e5, W5, V'5, st5⟩ := own_bastore X4 C e4 V_b2 (j := (rr1.1)) (x := (x1.toInt8.toInt32)) hg5 (hb hby d3_22)
  refine own_go st5 ?_
  replace E_o0 := E_o0.wr W5
  replace F_o0_data := F_o0_data.other W5 (Or.inl (own_ne (by omega)))
  replace F_o0_size := F_o0_size.other W5 (Or.inl (own_ne (by omega)))
  replace V_b2 := V'5
  clear V'5
  replace K := K.wr W5 (m_b2.elim (fun q => Or.inl (by rw [q]; exact List.mem_of_getElem? (i := 1) rfl)) Or.inr)
  replace N := Fr.snoc X5 N (by omega)
  show own_WP p e below _ T5 (mkF m 23 #[.val (.ref o0), .val (.int x1)] [])
  refine own_go (fun _ => XS.aloadN X5.here hx rfl (hb hby d3_23) rfl rfl) ?_
  show own_WP p e below _ T5 (mkF m 24 #[.val (.ref o0), .val (.int x1)] [(.ref o0)])
  obtain rfl := Option.some.inj hv
  exact own_retA X5 C rfl (hb hby d3_24) (by rw [e5]; exact hP _ _ _ N K ⟨b2, m_b2, rfl, E_o0, F_o0_data, F_o0_size, V_b2⟩) (by decide) (by decide)
theorem ef3 (m : MethodId) (o0 : Nat) (x1 : Int32) : entryFrame m #[(.ref o0), (.int x1)] 2 = (mkF m 0 #[.val (.ref o0), .val (.int x1)] []) := by first | (simp [entryFrame, mkF, argsToLocals, Value.category]; done) | rfl
theorem pd3 : parseMethodDescriptor "(I)Lcom/example/objwire/objwire/ndr/NdrWriter;" = some ⟨[.int], some (.object "com/example/objwire/objwire/ndr/NdrWriter")⟩ := by decide +kernel
theorem pn3 : plainFor (⟨"com/example/objwire/objwire/ndr/NdrWriter", "writeU8", "(I)Lcom/example/objwire/objwire/ndr/NdrWriter;"⟩ : MethodName) = true := plainFor_of_name (by first | (simp [plainName, overriddenIn]; done) | decide +kernel)
theorem rm3 (l : Launch) (Z : State) (a0 : Array Value) (hw : ∀ d ∈ tables_1, d.before a0 Z = true) (n0 : Nat) (h0 : Heap) (Z0 : n0 ≤ h0.size) {o0 : Nat} {da : Nat} {vs : List Int32} {c_o0_size : Int32} (o_o0_da : o0 < da) (g_o0 : n0 ≤ o0) (E_o0 : Exa Z h0 o0 "com/example/objwire/objwire/ndr/NdrWriter") (F_o0_data : Fld Z h0 o0 "com/example/objwire/objwire/ndr/NdrWriter" "data" "[B" (.ref da)) (F_o0_size : Fld Z h0 o0 "com/example/objwire/objwire/ndr/NdrWriter" "size" "I" (.int c_o0_size)) (V_da : own_AI Z h0 da .byte vs) (x1 : Int32)  (rr : Int32 × (List Int32)) (hf : f3_0 vs c_o0_size x1 = some rr) :
    own_Met l Z (⟨"com/example/objwire/objwire/ndr/NdrWriter", "writeU8", "(I)Lcom/example/objwire/objwire/ndr/NdrWriter;"⟩ : MethodName) prog_55_method_3_code 2 (some (.object "com/example/objwire/objwire/ndr/NdrWriter")) [] rmR3 #[(.ref o0), (.int x1)] h0 (fun v h L => Fr n0 L ∧ Keep h0 h [o0, da] ∧ E3 Z h0 o0 da vs rr v h) := by
  refine own_body pn3 ?_
  intro p e s m below meth c s₁ C X e0
  exact own_cast (ef3 m o0 x1) (b3_0 hw C Z0 rr (fun v h L a b c => ⟨a, b, c⟩) X e0 (Fr.nil n0) (Keep.refl h0 [o0, da]) o_o0_da g_o0 E_o0 F_o0_data F_o0_size V_da x1 hf)
theorem d6_0 : decode prog_55_method_5_code 0 = .ok (.aload_n 0, 1) := by decide +kernel
theorem d6_1 : decode prog_55_method_5_code 1 = .ok (.iconst 4, 1) := by decide +kernel
theorem d6_2 : decode prog_55_method_5_code 2 = .ok (.invokevirtual 17, 3) := by decide +kernel
theorem d6_5 : decode prog_55_method_5_code 5 = .ok (.iconst 0, 1) := by decide +kernel
theorem d6_6 : decode prog_55_method_5_code 6 = .ok (.istore_n 2, 1) := by decide +kernel
theorem d6_7 : decode prog_55_method_5_code 7 = .ok (.iload_n 2, 1) := by decide +kernel
theorem d6_8 : decode prog_55_method_5_code 8 = .ok (.bipush 32, 2) := by decide +kernel
theorem d6_10 : decode prog_55_method_5_code 10 = .ok (.if_icmp .ge 29, 3) := by decide +kernel
theorem d6_13 : decode prog_55_method_5_code 13 = .ok (.aload_n 0, 1) := by decide +kernel
theorem d6_14 : decode prog_55_method_5_code 14 = .ok (.getfield 7, 3) := by decide +kernel
theorem d6_17 : decode prog_55_method_5_code 17 = .ok (.aload_n 0, 1) := by decide +kernel
theorem d6_18 : decode prog_55_method_5_code 18 = .ok (.dup, 1) := by decide +kernel
theorem d6_19 : decode prog_55_method_5_code 19 = .ok (.getfield 13, 3) := by decide +kernel
theorem d6_22 : decode prog_55_method_5_code 22 = .ok (.dup_x1, 1) := by decide +kernel
theorem d6_23 : decode prog_55_method_5_code 23 = .ok (.iconst 1, 1) := by decide +kernel
theorem d6_24 : decode prog_55_method_5_code 24 = .ok (.iadd, 1) := by decide +kernel
theorem d6_25 : decode prog_55_method_5_code 25 = .ok (.putfield 13, 3) := by decide +kernel
theorem d6_28 : decode prog_55_method_5_code 28 = .ok (.iload_n 1, 1) := by decide +kernel
theorem d6_29 : decode prog_55_method_5_code 29 = .ok (.iload_n 2, 1) := by decide +kernel
theorem d6_30 : decode prog_55_method_5_code 30 = .ok (.iushr, 1) := by decide +kernel
theorem d6_31 : decode prog_55_method_5_code 31 = .ok (.i2b, 1) := by decide +kernel
theorem d6_32 : decode prog_55_method_5_code 32 = .ok (.bastore, 1) := by decide +kernel
theorem d6_33 : decode prog_55_method_5_code 33 = .ok (.iinc 2 8, 3) := by decide +kernel
theorem d6_36 : decode prog_55_method_5_code 36 = .ok (.goto (-29), 3) := by decide +kernel
theorem d6_39 : decode prog_55_method_5_code 39 = .ok (.aload_n 0, 1) := by decide +kernel
theorem d6_40 : decode prog_55_method_5_code 40 = .ok (.areturn, 1) := by decide +kernel
def rmR6 : Room := { frames := 3, cells := 1, slots := 256, locals := 46 }
def E6 (Z : State) (h0 : Heap) (o0 : Nat) (da : Nat) (vs : List Int32) (rr : Int32 × (List Int32)) (v : Option Value) (h : Heap) : Prop := ∃ dd, (dd = da ∨ h0.size ≤ dd) ∧ v = some (.ref o0) ∧ Exa Z h o0 "com/example/objwire/objwire/ndr/NdrWriter" ∧ Fld Z h o0 "com/example/objwire/objwire/ndr/NdrWriter" "data" "[B" (.ref dd) ∧ Fld Z h o0 "com/example/objwire/objwire/ndr/NdrWriter" "size" "I" (.int (rr.1)) ∧ own_AI Z h dd .byte (rr.2)
def f6_0 (vs : List Int32) (c_o0_size : Int32) (x1 : Int32) : Option (Int32 × (List Int32)) := ((f4_0 vs c_o0_size (4 : Int32)).bind fun rr1 => ((own_set (rr1.2) (rr1.1) (((XT.ushr x1 (0 : Int32)).toInt8.toInt32).toInt8.toInt32)).bind fun u5 => ((own_set u5 ((rr1.1) + (1 : Int32)) (((XT.ushr x1 (8 : Int32)).toInt8.toInt32).toInt8.toInt32)).bind fun u9 => ((own_set u9 (((rr1.1) + (1 : Int32)) + (1 : Int32)) (((XT.ushr x1 (16 : Int32)).toInt8.toInt32).toInt8.toInt32)).bind fun u13 => ((own_set u13 ((((rr1.1) + (1 : Int32)) + (1 : Int32)) + (1 : Int32)) (((XT.ushr x1 (24 : Int32)).toInt8.toInt32).toInt8.toInt32)).bind fun u17 => (some ((((((rr1.1) + (1 : Int32)) + (1 : Int32)) + (1 : Int32)) + (1 : Int32)), u17)))))))
set_option maxRecDepth 65536 in
set_option maxHeartbeats 40000000 in
theorem b6_0 {p : Program} {l : Launch} {e : Env} {s : State} {m : MethodId} {args : Array Value} {below : List Frame} {meth : Method} {c : Code} {Z : State} {a0 : Array Value} {h0 : Heap} {n0 : Nat} {P : Option Value → Heap → List Loc → Prop} (hw : ∀ d ∈ tables_1, d.before a0 Z = true) (C : own_Ctx p s m meth c Z (⟨"com/example/objwire/objwire/ndr/NdrWriter", "writeU32", "(I)Lcom/example/objwire/objwire/ndr/NdrWriter;"⟩ : MethodName) prog_55_method_5_code 3 (some (.object "com/example/objwire/objwire/ndr/NdrWriter"))) (Z0 : n0 ≤ h0.size) {o0 : Nat} {da : Nat} {vs : List Int32} (rr : Int32 × (List Int32)) (hP : ∀ v h L, Fr n0 L → Keep h0 h [o0, da] → E6 Z h0 o0 da vs rr v h → P v h L)
    {T : State} {locs : List Loc} {h : Heap} {c_o0_size : Int32} (X : Stand p l e rmR6 s m args below meth c T locs 0 0) (e0 : T.heap = h) (N : Fr n0 locs) (K : Keep h0 h [o0, da]) (o_o0_da : o0 < da) (g_o0 : n0 ≤ o0) (E_o0 : Exa Z h o0 "com/example/objwire/objwire/ndr/NdrWriter") (F_o0_data : Fld Z h o0 "com/example/objwire/objwire/ndr/NdrWriter" "data" "[B" (.ref da)) (F_o0_size : Fld Z h o0 "com/example/objwire/objwire/ndr/NdrWriter" "size" "I" (.int c_o0_size)) (V_da : own_AI Z h da .byte vs) (x1 : Int32) (hv : f6_0 vs c_o0_size x1 = some rr) :
    own_WP p e below (own_Q s P rmR6.cells rmR6.slots) T (mkF m 0 #[.val (.ref o0), .val (.int x1), .unset] []) := by
  obtain ⟨hx, hZ, hby, hml, hown, hnm, hret, hlk⟩ := id C
  replace hown : s.vm.findClass "com/example/objwire/objwire/ndr/NdrWriter" = some m.cls := hown
  unfold f6_0 at hv
  show own_WP p e below _ T (mkF m 0 #[.val (.ref o0), .val (.int x1), .unset] [])
  refine own_go (fun _ => XS.aloadN X.here hx rfl (hb hby d6_0) rfl rfl) ?_
  show own_WP p e below _ T (mkF m 1 #[.val (.ref o0), .val (.int x1), .unset] [(.ref o0)])
  refine own_go (fun _ => XS.iconst X.here hx rfl (hb hby d6_1)) ?_
  show own_WP p e below _ T (mkF m 2 #[.val (.ref o0), .val (.int x1), .unset] [(.int (4 : Int32)), (.ref o0)])
  obtain ⟨rr1, hf1, hv⟩ := own_bind hv
  obtain ⟨T1, v1, L1, X1, ⟨N1, K1, Q1⟩, st1⟩ := own_callR X C (a := o0) (argsL := [(.int (4 : Int32))]) (rm4 l Z a0 hw n0 h (by have q := K.1; omega) (by omega) (by omega) E_o0 F_o0_data F_o0_size V_da (4 : Int32) rr1 hf1) (hw _ (List.mem_of_getElem? (i := 17) rfl)) (own_selP (y2 := (⟨"com/example/objwire/objwire/ndr/NdrWriter", "writeU8", "(I)Lcom/example/objwire/objwire/ndr/NdrWriter;"⟩ : MethodName)) rfl (hw _ (List.mem_of_getElem? (i := 15) rfl)) (hw _ (List.mem_of_getElem? (i := 18) rfl)) (hw _ (List.mem_of_getElem? (i := 19) rfl)) (by decide)) (hw _ (List.mem_of_getElem? (i := 19) rfl)) (hw _ (List.mem_of_getElem? (i := 18) rfl)) (hw _ (List.mem_of_getElem? (i := 3) rfl)) (hw _ (List.mem_of_getElem? (i := 20) rfl)) (by decide) e0 E_o0 (W := 0) (pc := 2) (Ls := #[.val (.ref o0), .val (.int x1), .unset]) rfl (lenOf pd4 rfl) (rest := []) (stk := [(.int (4 : Int32)), (.ref o0)]) rfl (Nat.le_of_ble_eq_true rfl) (hb hby d6_2) (by decide) (by decide) (by decide) (by decide)
  replace N := Fr.app N N1
  have lt1 : da < h.size := V_da.lt
  have kz1 := K.1
  clear E_o0
  clear F_o0_data
  clear F_o0_size
  clear V_da
  obtain ⟨b2, zz1, rfl, E_o0, F_o0_data, F_o0_size, V_b2⟩ := Q1
  have o_o0_b2 : o0 < b2 := by omega
  have m_b2 : b2 = da ∨ h0.size ≤ b2 := zz1.elim Or.inl (fun q => Or.inr (by omega))
  replace K := K.trans K1 (allS (Or.inl (List.mem_of_getElem? (i := 0) rfl)) (allS (Or.inl (List.mem_of_getElem? (i := 1) rfl)) all0))
  refine own_go st1 ?_
  show own_WP p e below _ T1 (mkF m 5 #[.val (.ref o0), .val (.int x1), .unset] [])
  refine own_go (fun _ => XS.iconst X1.here hx rfl (hb hby d6_5)) ?_
  show own_WP p e below _ T1 (mkF m 6 #[.val (.ref o0), .val (.int x1), .unset] [(.int (0 : Int32))])
  refine own_go (fun _ => XS.istoreN X1.here hx rfl (hb hby d6_6) rfl (l' := #[.val (.ref o0), .val (.int x1), .val (.int (0 : Int32))]) rfl) ?_
  show own_WP p e below _ T1 (mkF m 7 #[.val (.ref o0), .val (.int x1), .val (.int (0 : Int32))] [])
  refine own_go (fun _ => XS.iloadN X1.here hx rfl (hb hby d6_7) rfl) ?_
  show own_WP p e below _ T1 (mkF m 8 #[.val (.ref o0), .val (.int x1), .val (.int (0 : Int32))] [(.int (0 : Int32))])
  refine own_go (fun _ => XS.bipush X1.here hx rfl (hb hby d6_8)) ?_
  show own_WP p e below _ T1 (mkF m 10 #[.val (.ref o0), .val (.int x1), .val (.int (0 : Int32))] [(.int (32 : Int32)), (.int (0 : Int32))])
  refine own_go (fun _ => XS.icmpNo X1.here hx rfl (hb hby d6_10) rfl (XT.ii_ge_f (by decide : (0 : Int32) < (32 : Int32)))) ?_
  show own_WP p e below _ T1 (mkF m 13 #[.val (.ref o0), .val (.int x1), .val (.int (0 : Int32))] [])
  refine own_go (fun _ => XS.aloadN X1.here hx rfl (hb hby d6_13) rfl rfl) ?_
  show own_WP p e below _ T1 (mkF m 14 #[.val (.ref o0), .val (.int x1), .val (.int (0 : Int32))] [(.ref o0)])
  obtain ⟨T2, X2, e2, st2⟩ := getF X1 hx hZ hown (host := "") (Or.inl (hw _ (List.mem_of_getElem? (i := 10) rfl))) Via.refl (rfl : T1.heap = T1.heap) F_o0_data (g := (mkF m 14 #[.val (.ref o0), .val (.int x1), .val (.int (0 : Int32))] [(.ref o0)])) rfl rfl (hb hby d6_14)
  refine own_go st2 ?_
  show own_WP p e below _ T2 (mkF m 17 #[.val (.ref o0), .val (.int x1), .val (.int (0 : Int32))] [(.ref b2)])
  refine own_go (fun _ => XS.aloadN X2.here hx rfl (hb hby d6_17) rfl rfl) ?_
  show own_WP p e below _ T2 (mkF m 18 #[.val (.ref o0), .val (.int x1), .val (.int (0 : Int32))] [(.ref o0), (.ref b2)])
  refine own_go (fun _ => XS.dup X2.here hx rfl (hb hby d6_18) rfl rfl) ?_
  show own_WP p e below _ T2 (mkF m 19 #[.val (.ref o0), .val (.int x1), .val (.int (0 : Int32))] [(.ref o0), (.ref o0), (.ref b2)])
  obtain ⟨T3, X3, e3, st3⟩ := getF X2 hx hZ hown (host := "") (Or.inl (hw _ (List.mem_of_getElem? (i := 21) rfl))) Via.refl e2 F_o0_size (g := (mkF m 19 #[.val (.ref o0), .val (.int x1), .val (.int (0 : Int32))] [(.ref o0), (.ref o0), (.ref b2)])) rfl rfl (hb hby d6_19)
  refine own_go st3 ?_
  show own_WP p e below _ T3 (mkF m 22 #[.val (.ref o0), .val (.int x1), .val (.int (0 : Int32))] [(.int (rr1.1)), (.ref o0), (.ref b2)])
  refine own_go (fun _ => XS.dupX1 X3.here hx rfl (hb hby d6_22) rfl rfl rfl) ?_
  show own_WP p e below _ T3 (mkF m 23 #[.val (.ref o0), .val (.int x1), .val (.int (0 : Int32))] [(.int (rr1.1)), (.ref o0), (.int (rr1.1)), (.ref b2)])
  refine own_go (fun _ => XS.iconst X3.here hx rfl (hb hby d6_23)) ?_
  show own_WP p e below _ T3 (mkF m 24 #[.val (.ref o0), .val (.int x1), .val (.int (0 : Int32))] [(.int (1 : Int32)), (.int (rr1.1)), (.ref o0), (.int (rr1.1)), (.ref b2)])
  refine own_go (fun _ => XS.iadd X3.here hx rfl (hb hby d6_24) rfl) ?_
  show own_WP p e below _ T3 (mkF m 25 #[.val (.ref o0), .val (.int x1), .val (.int (0 : Int32))] [(.int ((rr1.1) + (1 : Int32))), (.ref o0), (.int (rr1.1)), (.ref b2)])
  obtain ⟨T4, h4, X4, e4, W4, st4⟩ := putF X3 hx hZ hown (host := "") (Or.inl (hw _ (List.mem_of_getElem? (i := 21) rfl))) Via.refl e3 F_o0_size E_o0 (Or.inl (hw _ (List.mem_of_getElem? (i := 22) rfl))) (hw _ (List.mem_of_getElem? (i := 2) rfl)) (ty := .int) (by decide) rfl rfl (g := (mkF m 25 #[.val (.ref o0), .val (.int x1), .val (.int (0 : Int32))] [(.int ((rr1.1) + (1 : Int32))), (.ref o0), (.int (rr1.1)), (.ref b2)])) rfl rfl (hb hby d6_25)
  refine own_go st4 ?_
  replace E_o0 := E_o0.wr W4
  replace F_o0_data := F_o0_data.other W4 (Or.inr (slot_ne (Or.inl (hw _ (List.mem_of_getElem? (i := 11) rfl))) (Or.inl (hw _ (List.mem_of_getElem? (i := 22) rfl))) (by decide) (t := (.array .byte)) (t' := .int) (by decide) (by decide)))
  replace F_o0_size := F_o0_size.same W4
  replace V_b2 := V_b2.other W4 (own_ne (by omega))
  replace K := K.wr W4 (Or.inl (List.mem_of_getElem? (i := 0) rfl))
  replace N := Fr.snoc X4 N (by omega)
  show own_WP p e below _ T4 (mkF m 28 #[.val (.ref o0), .val (.int x1), .val (.int (0 : Int32))] [(.int (rr1.1)), (.ref b2)])
  refine own_go (fun _ => XS.iloadN X4.here hx rfl (hb hby d6_28) rfl) ?_
  show own_WP p e below _ T4 (mkF m 29 #[.val (.ref o0), .val (.int x1), .val (.int (0 : Int32))] [(.int x1), (.int (rr1.1)), (.ref b2)])
  refine own_go (fun _ => XS.iloadN X4.here hx rfl (hb hby d6_29) rfl) ?_
  show own_WP p e below _ T4 (mkF m 30 #[.val (.ref o0), .val (.int x1), .val (.int (0 : Int32))] [(.int (0 : Int32)), (.int x1), (.int (rr1.1)), (.ref b2)])
  refine own_go (fun _ => XT.iushr X4.here hx rfl (hb hby d6_30) rfl) ?_
  show own_WP p e below _ T4 (mkF m 31 #[.val (.ref o0), .val (.int x1), .val (.int (0 : Int32))] [(.int (XT.ushr x1 (0 : Int32))), (.int (rr1.1)), (.ref b2)])
  refine own_go (fun _ => XS.i2b X4.here hx rfl (hb hby d6_31) rfl) ?_
  show own_WP p e below _ T4 (mkF m 32 #[.val (.ref o0), .val (.int x1), .val (.int (0 : Int32))] [(.int ((XT.ushr x1 (0 : Int32)).toInt8.toInt32)), (.int (rr1.1)), (.ref b2)])
  obtain ⟨u5, hg5, hv⟩ := own_bind hv
  obtain ⟨T5, h5, X5, e5, W5, V'5, st5⟩ := own_bastore X4 C e4 V_b2 (j := (rr1.1)) (x := ((XT.ushr x1 (0 : Int32)).toInt8.toInt32)) hg5 (hb hby d6_32)
  refine own_go st5 ?_
  replace E_o0 := E_o0.wr W5
  replace F_o0_data := F_o0_data.other W5 (Or.inl (own_ne (by omega)))
  replace F_o0_size := F_o0_size.other W5 (Or.inl (own_ne (by omega)))
  replace V_b2 := V'5
  clear V'5
  replace K := K.wr W5 (m_b2.elim (fun q => Or.inl (by rw [q]; exact List.mem_of_getElem? (i := 1) rfl)) Or.inr)
  replace N := Fr.snoc X5 N (by omega)
  show own_WP p e below _ T5 (mkF m 33 #[.val (.ref o0), .val (.int x1), .val (.int (0 : Int32))] [])
  refine own_go (fun _ => XS.iinc X5.here hx rfl (hb hby d6_33) rfl (l' := #[.val (.ref o0), .val (.int x1), .val (.int (8 : Int32))]) rfl) ?_
  show own_WP p e below _ T5 (mkF m 36 #[.val (.ref o0), .val (.int x1), .val (.int (8 : Int32))] [])
  refine own_go (fun _ => XS.goto X5.here hx rfl (pc0 := 36) (pc' := 7) rfl (hb hby d6_36) (by decide) (by decide)) ?_
  show own_WP p e below _ T5 (mkF m 7 #[.val (.ref o0), .val (.int x1), .val (.int (8 : Int32))] [])
  refine own_go (fun _ => XS.iloadN X5.here hx rfl (hb hby d6_7) rfl) ?_
  show own_WP p e below _ T5 (mkF m 8 #[.val (.ref o0), .val (.int x1), .val (.int (8 : Int32))] [(.int (8 : Int32))])
  refine own_go (fun _ => XS.bipush X5.here hx rfl (hb hby d6_8)) ?_
  show own_WP p e below _ T5 (mkF m 10 #[.val (.ref o0), .val (.int x1), .val (.int (8 : Int32))] [(.int (32 : Int32)), (.int (8 : Int32))])
  refine own_go (fun _ => XS.icmpNo X5.here hx rfl (hb hby d6_10) rfl (XT.ii_ge_f (by decide : (8 : Int32) < (32 : Int32)))) ?_
  show own_WP p e below _ T5 (mkF m 13 #[.val (.ref o0), .val (.int x1), .val (.int (8 : Int32))] [])
  refine own_go (fun _ => XS.aloadN X5.here hx rfl (hb hby d6_13) rfl rfl) ?_
  show own_WP p e below _ T5 (mkF m 14 #[.val (.ref o0), .val (.int x1), .val (.int (8 : Int32))] [(.ref o0)])
  obtain ⟨T6, X6, e6, st6⟩ := getF X5 hx hZ hown (host := "") (Or.inl (hw _ (List.mem_of_getElem? (i := 10) rfl))) Via.refl e5 F_o0_data (g := (mkF m 14 #[.val (.ref o0), .val (.int x1), .val (.int (8 : Int32))] [(.ref o0)])) rfl rfl (hb hby d6_14)
  refine own_go st6 ?_
  show own_WP p e below _ T6 (mkF m 17 #[.val (.ref o0), .val (.int x1), .val (.int (8 : Int32))] [(.ref b2)])
  refine own_go (fun _ => XS.aloadN X6.here hx rfl (hb hby d6_17) rfl rfl) ?_
  show own_WP p e below _ T6 (mkF m 18 #[.val (.ref o0), .val (.int x1), .val (.int (8 : Int32))] [(.ref o0), (.ref b2)])
  refine own_go (fun _ => XS.dup X6.here hx rfl (hb hby d6_18) rfl rfl) ?_
  show own_WP p e below _ T6 (mkF m 19 #[.val (.ref o0), .val (.int x1), .val (.int (8 : Int32))] [(.ref o0), (.ref o0), (.ref b2)])
  obtain ⟨T7, X7, e7, st7⟩ := getF X6 hx hZ hown (host := "") (Or.inl (hw _ (List.mem_of_getElem? (i := 21) rfl))) Via.refl e6 F_o0_size (g := (mkF m 19 #[.val (.ref o0), .val (.int x1), .val (.int (8 : Int32))] [(.ref o0), (.ref o0), (.ref b2)])) rfl rfl (hb hby d6_19)
  refine own_go st7 ?_
  show own_WP p e below _ T7 (mkF m 22 #[.val (.ref o0), .val (.int x1), .val (.int (8 : Int32))] [(.int ((rr1.1) + (1 : Int32))), (.ref o0), (.ref b2)])
  refine own_go (fun _ => XS.dupX1 X7.here hx rfl (hb hby d6_22) rfl rfl rfl) ?_
  show own_WP p e below _ T7 (mkF m 23 #[.val (.ref o0), .val (.int x1), .val (.int (8 : Int32))] [(.int ((rr1.1) + (1 : Int32))), (.ref o0), (.int ((rr1.1) + (1 : Int32))), (.ref b2)])
  refine own_go (fun _ => XS.iconst X7.here hx rfl (hb hby d6_23)) ?_
  show own_WP p e below _ T7 (mkF m 24 #[.val (.ref o0), .val (.int x1), .val (.int (8 : Int32))] [(.int (1 : Int32)), (.int ((rr1.1) + (1 : Int32))), (.ref o0), (.int ((rr1.1) + (1 : Int32))), (.ref b2)])
  refine own_go (fun _ => XS.iadd X7.here hx rfl (hb hby d6_24) rfl) ?_
  show own_WP p e below _ T7 (mkF m 25 #[.val (.ref o0), .val (.int x1), .val (.int (8 : Int32))] [(.int (((rr1.1) + (1 : Int32)) + (1 : Int32))), (.ref o0), (.int ((rr1.1) + (1 : Int32))), (.ref b2)])
  obtain ⟨T8, h8, X8, e8, W8, st8⟩ := putF X7 hx hZ hown (host := "") (Or.inl (hw _ (List.mem_of_getElem? (i := 21) rfl))) Via.refl e7 F_o0_size E_o0 (Or.inl (hw _ (List.mem_of_getElem? (i := 22) rfl))) (hw _ (List.mem_of_getElem? (i := 2) rfl)) (ty := .int) (by decide) rfl rfl (g := (mkF m 25 #[.val (.ref o0), .val (.int x1), .val (.int (8 : Int32))] [(.int (((rr1.1) + (1 : Int32)) + (1 : Int32))), (.ref o0), (.int ((rr1.1) + (1 : Int32))), (.ref b2)])) rfl rfl (hb hby d6_25)
  refine own_go st8 ?_
  replace E_o0 := E_o0.wr W8
  replace F_o0_data := F_o0_data.other W8 (Or.inr (slot_ne (Or.inl (hw _ (List.mem_of_getElem? (i := 11) rfl))) (Or.inl (hw _ (List.mem_of_getElem? (i := 22) rfl))) (by decide) (t := (.array .byte)) (t' := .int) (by decide) (by decide)))
  replace F_o0_size := F_o0_size.same W8
  replace V_b2 := V_b2.other W8 (own_ne (by omega))
  replace K := K.wr W8 (Or.inl (List.mem_of_getElem? (i := 0) rfl))
  replace N := Fr.snoc X8 N (by omega)
  show own_WP p e below _ T8 (mkF m 28 #[.val (.ref o0), .val (.int x1), .val (.int (8 : Int32))] [(.int ((rr1.1) + (1 : Int32))), (.ref b2)])
  refine own_go (fun _ => XS.iloadN X8.here hx rfl (hb hby d6_28) rfl) ?_
  show own_WP p e below _ T8 (mkF m 29 #[.val (.ref o0), .val (.int x1), .val (.int (8 : Int32))] [(.int x1), (.int ((rr1.1) + (1 : Int32))), (.ref b2)])
  refine own_go (fun _ => XS.iloadN X8.here hx rfl (hb hby d6_29) rfl) ?_
  show own_WP p e below _ T8 (mkF m 30 #[.val (.ref o0), .val (.int x1), .val (.int (8 : Int32))] [(.int (8 : Int32)), (.int x1), (.int ((rr1.1) + (1 : Int32))), (.ref b2)])
  refine own_go (fun _ => XT.iushr X8.here hx rfl (hb hby d6_30) rfl) ?_
  show own_WP p e below _ T8 (mkF m 31 #[.val (.ref o0), .val (.int x1), .val (.int (8 : Int32))] [(.int (XT.ushr x1 (8 : Int32))), (.int ((rr1.1) + (1 : Int32))), (.ref b2)])
  refine own_go (fun _ => XS.i2b X8.here hx rfl (hb hby d6_31) rfl) ?_
  show own_WP p e below _ T8 (mkF m 32 #[.val (.ref o0), .val (.int x1), .val (.int (8 : Int32))] [(.int ((XT.ushr x1 (8 : Int32)).toInt8.toInt32)), (.int ((rr1.1) + (1 : Int32))), (.ref b2)])
  obtain ⟨u9, hg9, hv⟩ := own_bind hv
  obtain ⟨T9, h9, X9, e9, W9, V'9, st9⟩ := own_bastore X8 C e8 V_b2 (j := ((rr1.1) + (1 : Int32))) (x := ((XT.ushr x1 (8 : Int32)).toInt8.toInt32)) hg9 (hb hby d6_32)
  refine own_go st9 ?_
  replace E_o0 := E_o0.wr W9
  replace F_o0_data := F_o0_data.other W9 (Or.inl (own_ne (by omega)))
  replace F_o0_size := F_o0_size.other W9 (Or.inl (own_ne (by omega)))
  replace V_b2 := V'9
  clear V'9
  replace K := K.wr W9 (m_b2.elim (fun q => Or.inl (by rw [q]; exact List.mem_of_getElem? (i := 1) rfl)) Or.inr)
  replace N := Fr.snoc X9 N (by omega)
  show own_WP p e below _ T9 (mkF m 33 #[.val (.ref o0), .val (.int x1), .val (.int (8 : Int32))] [])
  refine own_go (fun _ => XS.iinc X9.here hx rfl (hb hby d6_33) rfl (l' := #[.val (.ref o0), .val (.int x1), .val (.int (16 : Int32))]) rfl) ?_
  show own_WP p e below _ T9 (mkF m 36 #[.val (.ref o0), .val (.int x1), .val (.int (16 : Int32))] [])
  refine own_go (fun _ => XS.goto X9.here hx rfl (pc0 := 36) (pc' := 7) rfl (hb hby d6_36) (by decide) (by decide)) ?_
  show own_WP p e below _ T9 (mkF m 7 #[.val (.ref o0), .val (.int x1), .val (.int (16 : Int32))] [])
  refine own_go (fun _ => XS.iloadN X9.here hx rfl (hb hby d6_7) rfl) ?_
  show own_WP p e below _ T9 (mkF m 8 #[.val (.ref o0), .val (.int x1), .val (.int (16 : Int32))] [(.int (16 : Int32))])
  refine own_go (fun _ => XS.bipush X9.here hx rfl (hb hby d6_8)) ?_
  show own_WP p e below _ T9 (mkF m 10 #[.val (.ref o0), .val (.int x1), .val (.int (16 : Int32))] [(.int (32 : Int32)), (.int (16 : Int32))])
  refine own_go (fun _ => XS.icmpNo X9.here hx rfl (hb hby d6_10) rfl (XT.ii_ge_f (by decide : (16 : Int32) < (32 : Int32)))) ?_
  show own_WP p e below _ T9 (mkF m 13 #[.val (.ref o0), .val (.int x1), .val (.int (16 : Int32))] [])
  refine own_go (fun _ => XS.aloadN X9.here hx rfl (hb hby d6_13) rfl rfl) ?_
  show own_WP p e below _ T9 (mkF m 14 #[.val (.ref o0), .val (.int x1), .val (.int (16 : Int32))] [(.ref o0)])
  obtain ⟨T10, X10, e10, st10⟩ := getF X9 hx hZ hown (host := "") (Or.inl (hw _ (List.mem_of_getElem? (i := 10) rfl))) Via.refl e9 F_o0_data (g := (mkF m 14 #[.val (.ref o0), .val (.int x1), .val (.int (16 : Int32))] [(.ref o0)])) rfl rfl (hb hby d6_14)
  refine own_go st10 ?_
  show own_WP p e below _ T10 (mkF m 17 #[.val (.ref o0), .val (.int x1), .val (.int (16 : Int32))] [(.ref b2)])
  refine own_go (fun _ => XS.aloadN X10.here hx rfl (hb hby d6_17) rfl rfl) ?_
  show own_WP p e below _ T10 (mkF m 18 #[.val (.ref o0), .val (.int x1), .val (.int (16 : Int32))] [(.ref o0), (.ref b2)])
  refine own_go (fun _ => XS.dup X10.here hx rfl (hb hby d6_18) rfl rfl) ?_
  show own_WP p e below _ T10 (mkF m 19 #[.val (.ref o0), .val (.int x1), .val (.int (16 : Int32))] [(.ref o0), (.ref o0), (.ref b2)])
  obtain ⟨T11, X11, e11, st11⟩ := getF X10 hx hZ hown (host := "") (Or.inl (hw _ (List.mem_of_getElem? (i := 21) rfl))) Via.refl e10 F_o0_size (g := (mkF m 19 #[.val (.ref o0), .val (.int x1), .val (.int (16 : Int32))] [(.ref o0), (.ref o0), (.ref b2)])) rfl rfl (hb hby d6_19)
  refine own_go st11 ?_
  show own_WP p e below _ T11 (mkF m 22 #[.val (.ref o0), .val (.int x1), .val (.int (16 : Int32))] [(.int (((rr1.1) + (1 : Int32)) + (1 : Int32))), (.ref o0), (.ref b2)])
  refine own_go (fun _ => XS.dupX1 X11.here hx rfl (hb hby d6_22) rfl rfl rfl) ?_
  show own_WP p e below _ T11 (mkF m 23 #[.val (.ref o0), .val (.int x1), .val (.int (16 : Int32))] [(.int (((rr1.1) + (1 : Int32)) + (1 : Int32))), (.ref o0), (.int (((rr1.1) + (1 : Int32)) + (1 : Int32))), (.ref b2)])
  refine own_go (fun _ => XS.iconst X11.here hx rfl (hb hby d6_23)) ?_
  show own_WP p e below _ T11 (mkF m 24 #[.val (.ref o0), .val (.int x1), .val (.int (16 : Int32))] [(.int (1 : Int32)), (.int (((rr1.1) + (1 : Int32)) + (1 : Int32))), (.ref o0), (.int (((rr1.1) + (1 : Int32)) + (1 : Int32))), (.ref b2)])
  refine own_go (fun _ => XS.iadd X11.here hx rfl (hb hby d6_24) rfl) ?_
  show own_WP p e below _ T11 (mkF m 25 #[.val (.ref o0), .val (.int x1), .val (.int (16 : Int32))] [(.int ((((rr1.1) + (1 : Int32)) + (1 : Int32)) + (1 : Int32))), (.ref o0), (.int (((rr1.1) + (1 : Int32)) + (1 : Int32))), (.ref b2)])
  obtain ⟨T12, h12, X12, e12, W12, st12⟩ := putF X11 hx hZ hown (host := "") (Or.inl (hw _ (List.mem_of_getElem? (i := 21) rfl))) Via.refl e11 F_o0_size E_o0 (Or.inl (hw _ (List.mem_of_getElem? (i := 22) rfl))) (hw _ (List.mem_of_getElem? (i := 2) rfl)) (ty := .int) (by decide) rfl rfl (g := (mkF m 25 #[.val (.ref o0), .val (.int x1), .val (.int (16 : Int32))] [(.int ((((rr1.1) + (1 : Int32)) + (1 : Int32)) + (1 : Int32))), (.ref o0), (.int (((rr1.1) + (1 : Int32)) + (1 : Int32))), (.ref b2)])) rfl rfl (hb hby d6_25)
  refine own_go st12 ?_
  replace E_o0 := E_o0.wr W12
  replace F_o0_data := F_o0_data.other W12 (Or.inr (slot_ne (Or.inl (hw _ (List.mem_of_getElem? (i := 11) rfl))) (Or.inl (hw _ (List.mem_of_getElem? (i := 22) rfl))) (by decide) (t := (.array .byte)) (t' := .int) (by decide) (by decide)))
  replace F_o0_size := F_o0_size.same W12
  replace V_b2 := V_b2.other W12 (own_ne (by omega))
  replace K := K.wr W12 (Or.inl (List.mem_of_getElem? (i := 0) rfl))
  replace N := Fr.snoc X12 N (by omega)
  show own_WP p e below _ T12 (mkF m 28 #[.val (.ref o0), .val (.int x1), .val (.int (16 : Int32))] [(.int (((rr1.1) + (1 : Int32)) + (1 : Int32))), (.ref b2)])
  refine own_go (fun _ => XS.iloadN X12.here hx rfl (hb hby d6_28) rfl) ?_
  show own_WP p e below _ T12 (mkF m 29 #[.val (.ref o0), .val (.int x1), .val (.int (16 : Int32))] [(.int x1), (.int (((rr1.1) + (1 : Int32)) + (1 : Int32))), (.ref b2)])
  refine own_go (fun _ => XS.iloadN X12.here hx rfl (hb hby d6_29) rfl) ?_
  show own_WP p e below _ T12 (mkF m 30 #[.val (.ref o0), .val (.int x1), .val (.int (16 : Int32))] [(.int (16 : Int32)), (.int x1), (.int (((rr1.1) + (1 : Int32)) + (1 : Int32))), (.ref b2)])
  refine own_go (fun _ => XT.iushr X12.here hx rfl (hb hby d6_30) rfl) ?_
  show own_WP p e below _ T12 (mkF m 31 #[.val (.ref o0), .val (.int x1), .val (.int (16 : Int32))] [(.int (XT.ushr x1 (16 : Int32))), (.int (((rr1.1) + (1 : Int32)) + (1 : Int32))), (.ref b2)])
  refine own_go (fun _ => XS.i2b X12.here hx rfl (hb hby d6_31) rfl) ?_
  show own_WP p e below _ T12 (mkF m 32 #[.val (.ref o0), .val (.int x1), .val (.int (16 : Int32))] [(.int ((XT.ushr x1 (16 : Int32)).toInt8.toInt32)), (.int (((rr1.1) + (1 : Int32)) + (1 : Int32))), (.ref b2)])
  obtain ⟨u13, hg13, hv⟩ := own_bind hv
  obtain ⟨T13, h13, X13, e13, W13, V'13, st13⟩ := own_bastore X12 C e12 V_b2 (j := (((rr1.1) + (1 : Int32)) + (1 : Int32))) (x := ((XT.ushr x1 (16 : Int32)).toInt8.toInt32)) hg13 (hb hby d6_32)
  refine own_go st13 ?_
  replace E_o0 := E_o0.wr W13
  replace F_o0_data := F_o0_data.other W13 (Or.inl (own_ne (by omega)))
  replace F_o0_size := F_o0_size.other W13 (Or.inl (own_ne (by omega)))
  replace V_b2 := V'13
  clear V'13
  replace K := K.wr W13 (m_b2.elim (fun q => Or.inl (by rw [q]; exact List.mem_of_getElem? (i := 1) rfl)) Or.inr)
  replace N := Fr.snoc X13 N (by omega)
  show own_WP p e below _ T13 (mkF m 33 #[.val (.ref o0), .val (.int x1), .val (.int (16 : Int32))] [])
  refine own_go (fun _ => XS.iinc X13.here hx rfl (hb hby d6_33) rfl (l' := #[.val (.ref o0), .val (.int x1), .val (.int (24 : Int32))]) rfl) ?_
  show own_WP p e below _ T13 (mkF m 36 #[.val (.ref o0), .val (.int x1), .val (.int (24 : Int32))] [])
  refine own_go (fun _ => XS.goto X13.here hx rfl (pc0 := 36) (pc' := 7) rfl (hb hby d6_36) (by decide) (by decide)) ?_
  show own_WP p e below _ T13 (mkF m 7 #[.val (.ref o0), .val (.int x1), .val (.int (24 : Int32))] [])
  refine own_go (fun _ => XS.iloadN X13.here hx rfl (hb hby d6_7) rfl) ?_
  show own_WP p e below _ T13 (mkF m 8 #[.val (.ref o0), .val (.int x1), .val (.int (24 : Int32))] [(.int (24 : Int32))])
  refine own_go (fun _ => XS.bipush X13.here hx rfl (hb hby d6_8)) ?_
  show own_WP p e below _ T13 (mkF m 10 #[.val (.ref o0), .val (.int x1), .val (.int (24 : Int32))] [(.int (32 : Int32)), (.int (24 : Int32))])
  refine own_go (fun _ => XS.icmpNo X13.here hx rfl (hb hby d6_10) rfl (XT.ii_ge_f (by decide : (24 : Int32) < (32 : Int32)))) ?_
  show own_WP p e below _ T13 (mkF m 13 #[.val (.ref o0), .val (.int x1), .val (.int (24 : Int32))] [])
  refine own_go (fun _ => XS.aloadN X13.here hx rfl (hb hby d6_13) rfl rfl) ?_
  show own_WP p e below _ T13 (mkF m 14 #[.val (.ref o0), .val (.int x1), .val (.int (24 : Int32))] [(.ref o0)])
  obtain ⟨T14, X14, e14, st14⟩ := getF X13 hx hZ hown (host := "") (Or.inl (hw _ (List.mem_of_getElem? (i := 10) rfl))) Via.refl e13 F_o0_data (g := (mkF m 14 #[.val (.ref o0), .val (.int x1), .val (.int (24 : Int32))] [(.ref o0)])) rfl rfl (hb hby d6_14)
  refine own_go st14 ?_
  show own_WP p e below _ T14 (mkF m 17 #[.val (.ref o0), .val (.int x1), .val (.int (24 : Int32))] [(.ref b2)])
  refine own_go (fun _ => XS.aloadN X14.here hx rfl (hb hby d6_17) rfl rfl) ?_
  show own_WP p e below _ T14 (mkF m 18 #[.val (.ref o0), .val (.int x1), .val (.int (24 : Int32))] [(.ref o0), (.ref b2)])
  refine own_go (fun _ => XS.dup X14.here hx rfl (hb hby d6_18) rfl rfl) ?_
  show own_WP p e below _ T14 (mkF m 19 #[.val (.ref o0), .val (.int x1), .val (.int (24 : Int32))] [(.ref o0), (.ref o0), (.ref b2)])
  obtain ⟨T15, X15, e15, st15⟩ := getF X14 hx hZ hown (host := "") (Or.inl (hw _ (List.mem_of_getElem? (i := 21) rfl))) Via.refl e14 F_o0_size (g := (mkF m 19 #[.val (.ref o0), .val (.int x1), .val (.int (24 : Int32))] [(.ref o0), (.ref o0), (.ref b2)])) rfl rfl (hb hby d6_19)
  refine own_go st15 ?_
  show own_WP p e below _ T15 (mkF m 22 #[.val (.ref o0), .val (.int x1), .val (.int (24 : Int32))] [(.int ((((rr1.1) + (1 : Int32)) + (1 : Int32)) + (1 : Int32))), (.ref o0), (.ref b2)])
  refine own_go (fun _ => XS.dupX1 X15.here hx rfl (hb hby d6_22) rfl rfl rfl) ?_
  show own_WP p e below _ T15 (mkF m 23 #[.val (.ref o0), .val (.int x1), .val (.int (24 : Int32))] [(.int ((((rr1.1) + (1 : Int32)) + (1 : Int32)) + (1 : Int32))), (.ref o0), (.int ((((rr1.1) + (1 : Int32)) + (1 : Int32)) + (1 : Int32))), (.ref b2)])
  refine own_go (fun _ => XS.iconst X15.here hx rfl (hb hby d6_23)) ?_
  show own_WP p e below _ T15 (mkF m 24 #[.val (.ref o0), .val (.int x1), .val (.int (24 : Int32))] [(.int (1 : Int32)), (.int ((((rr1.1) + (1 : Int32)) + (1 : Int32)) + (1 : Int32))), (.ref o0), (.int ((((rr1.1) + (1 : Int32)) + (1 : Int32)) + (1 : Int32))), (.ref b2)])
  refine own_go (fun _ => XS.iadd X15.here hx rfl (hb hby d6_24) rfl) ?_
  show own_WP p e below _ T15 (mkF m 25 #[.val (.ref o0), .val (.int x1), .val (.int (24 : Int32))] [(.int (((((rr1.1) + (1 : Int32)) + (1 : Int32)) + (1 : Int32)) + (1 : Int32))), (.ref o0), (.int ((((rr1.1) + (1 : Int32)) + (1 : Int32)) + (1 : Int32))), (.ref b2)])
  obtain ⟨T16, h16, X16, e16, W16, st16⟩ := putF X15 hx hZ hown (host := "") (Or.inl (hw _ (List.mem_of_getElem? (i := 21) rfl))) Via.refl e15 F_o0_size E_o0 (Or.inl (hw _ (List.mem_of_getElem? (i := 22) rfl))) (hw _ (List.mem_of_getElem? (i := 2) rfl)) (ty := .int) (by decide) rfl rfl (g := (mkF m 25 #[.val (.ref o0), .val (.int x1), .val (.int (24 : Int32))] [(.int (((((rr1.1) + (1 : Int32)) + (1 : Int32)) + (1 : Int32)) + (1 : Int32))), (.ref o0), (.int ((((rr1.1) + (1 : Int32)) + (1 : Int32)) + (1 : Int32))), (.ref b2)])) rfl rfl (hb hby d6_25)
  refine own_go st16 ?_
  replace E_o0 := E_o0.wr W16
  replace F_o0_data := F_o0_data.other W16 (Or.inr (slot_ne (Or.inl (hw _ (List.mem_of_getElem? (i := 11) rfl))) (Or.inl (hw _ (List.mem_of_getElem? (i := 22) rfl))) (by decide) (t := (.array .byte)) (t' := .int) (by decide) (by decide)))
  replace F_o0_size := F_o0_size.same W16
  replace V_b2 := V_b2.other W16 (own_ne (by omega))
  replace K := K.wr W16 (Or.inl (List.mem_of_getElem? (i := 0) rfl))
  replace N := Fr.snoc X16 N (by omega)
  show own_WP p e below _ T16 (mkF m 28 #[.val (.ref o0), .val (.int x1), .val (.int (24 : Int32))] [(.int ((((rr1.1) + (1 : Int32)) + (1 : Int32)) + (1 : Int32))), (.ref b2)])
  refine own_go (fun _ => XS.iloadN X16.here hx rfl (hb hby d6_28) rfl) ?_
  show own_WP p e below _ T16 (mkF m 29 #[.val (.ref o0), .val (.int x1), .val (.int (24 : Int32))] [(.int x1), (.int ((((rr1.1) + (1 : Int32)) + (1 : Int32)) + (1 : Int32))), (.ref b2)])
  refine own_go (fun _ => XS.iloadN X16.here hx rfl (hb hby d6_29) rfl) ?_
  show own_WP p e below _ T16 (mkF m 30 #[.val (.ref o0), .val (.int x1), .val (.int (24 : Int32))] [(.int (24 : Int32)), (.int x1), (.int ((((rr1.1) + (1 : Int32)) + (1 : Int32)) + (1 : Int32))), (.ref b2)])
  refine own_go (fun _ => XT.iushr X16.here hx rfl (hb hby d6_30) rfl) ?_
  show own_WP p e below _ T16 (mkF m 31 #[.val (.ref o0), .val (.int x1), .val (.int (24 : Int32))] [(.int (XT.ushr x1 (24 : Int32))), (.int ((((rr1.1) + (1 : Int32)) + (1 : Int32)) + (1 : Int32))), (.ref b2)])
  refine own_go (fun _ => XS.i2b X16.here hx rfl (hb hby d6_31) rfl) ?_
  show own_WP p e below _ T16 (mkF m 32 #[.val (.ref o0), .val (.int x1), .val (.int (24 : Int32))] [(.int ((XT.ushr x1 (24 : Int32)).toInt8.toInt32)), (.int ((((rr1.1) + (1 : Int32)) + (1 : Int32)) + (1 : Int32))), (.ref b2)])
  obtain ⟨u17, hg17, hv⟩ := own_bind hv
  obtain ⟨T17, h17, X17, e17, W17, V'17, st17⟩ := own_bastore X16 C e16 V_b2 (j := ((((rr1.1) + (1 : Int32)) + (1 : Int32)) + (1 : Int32))) (x := ((XT.ushr x1 (24 : Int32)).toInt8.toInt32)) hg17 (hb hby d6_32)
  refine own_go st17 ?_
  replace E_o0 := E_o0.wr W17
  replace F_o0_data := F_o0_data.other W17 (Or.inl (own_ne (by omega)))
  replace F_o0_size := F_o0_size.other W17 (Or.inl (own_ne (by omega)))
  replace V_b2 := V'17
  clear V'17
  replace K := K.wr W17 (m_b2.elim (fun q => Or.inl (by rw [q]; exact List.mem_of_getElem? (i := 1) rfl)) Or.inr)
  replace N := Fr.snoc X17 N (by omega)
  show own_WP p e below _ T17 (mkF m 33 #[.val (.ref o0), .val (.int x1), .val (.int (24 : Int32))] [])
  refine own_go (fun _ => XS.iinc X17.here hx rfl (hb hby d6_33) rfl (l' := #[.val (.ref o0), .val (.int x1), .val (.int (32 : Int32))]) rfl) ?_
  show own_WP p e below _ T17 (mkF m 36 #[.val (.ref o0), .val (.int x1), .val (.int (32 : Int32))] [])
  refine own_go (fun _ => XS.goto X17.here hx rfl (pc0 := 36) (pc' := 7) rfl (hb hby d6_36) (by decide) (by decide)) ?_
  show own_WP p e below _ T17 (mkF m 7 #[.val (.ref o0), .val (.int x1), .val (.int (32 : Int32))] [])
  refine own_go (fun _ => XS.iloadN X17.here hx rfl (hb hby d6_7) rfl) ?_
  show own_WP p e below _ T17 (mkF m 8 #[.val (.ref o0), .val (.int x1), .val (.int (32 : Int32))] [(.int (32 : Int32))])
  refine own_go (fun _ => XS.bipush X17.here hx rfl (hb hby d6_8)) ?_
  show own_WP p e below _ T17 (mkF m 10 #[.val (.ref o0), .val (.int x1), .val (.int (32 : Int32))] [(.int (32 : Int32)), (.int (32 : Int32))])
  refine own_go (fun _ => XS.icmpYes X17.here hx rfl (pc0 := 10) (pc' := 39) rfl (hb hby d6_10) rfl (XT.ii_ge_t (by decide : ¬ ((32 : Int32) < (32 : Int32)))) (by decide) (by decide)) ?_
  show own_WP p e below _ T17 (mkF m 39 #[.val (.ref o0), .val (.int x1), .val (.int (32 : Int32))] [])
  refine own_go (fun _ => XS.aloadN X17.here hx rfl (hb hby d6_39) rfl rfl) ?_
  show own_WP p e below _ T17 (mkF m 40 #[.val (.ref o0), .val (.int x1), .val (.int (32 : Int32))] [(.ref o0)])
  obtain rfl := Option.some.inj hv
  exact own_retA X17 C rfl (hb hby d6_40) (by rw [e17]; exact hP _ _ _ N K ⟨b2, m_b2, rfl, E_o0, F_o0_data, F_o0_size, V_b2⟩) (by decide) (by decide)
theorem ef6 (m : MethodId) (o0 : Nat) (x1 : Int32) : entryFrame m #[(.ref o0), (.int x1)] 3 = (mkF m 0 #[.val (.ref o0), .val (.int x1), .unset] []) := by first | (simp [entryFrame, mkF, argsToLocals, Value.category]; done) | rfl
theorem pd6 : parseMethodDescriptor "(I)Lcom/example/objwire/objwire/ndr/NdrWriter;" = some ⟨[.int], some (.object "com/example/objwire/objwire/ndr/NdrWriter")⟩ := by decide +kernel
theorem pn6 : plainFor (⟨"com/example/objwire/objwire/ndr/NdrWriter", "writeU32", "(I)Lcom/example/objwire/objwire/ndr/NdrWriter;"⟩ : MethodName) = true := plainFor_of_name (by first | (simp [plainName, overriddenIn]; done) | decide +kernel)
theorem rm6 (l : Launch) (Z : State) (a0 : Array Value) (hw : ∀ d ∈ tables_1, d.before a0 Z = true) (n0 : Nat) (h0 : Heap) (Z0 : n0 ≤ h0.size) {o0 : Nat} {da : Nat} {vs : List Int32} {c_o0_size : Int32} (o_o0_da : o0 < da) (g_o0 : n0 ≤ o0) (E_o0 : Exa Z h0 o0 "com/example/objwire/objwire/ndr/NdrWriter") (F_o0_data : Fld Z h0 o0 "com/example/objwire/objwire/ndr/NdrWriter" "data" "[B" (.ref da)) (F_o0_size : Fld Z h0 o0 "com/example/objwire/objwire/ndr/NdrWriter" "size" "I" (.int c_o0_size)) (V_da : own_AI Z h0 da .byte vs) (x1 : Int32)  (rr : Int32 × (List Int32)) (hf : f6_0 vs c_o0_size x1 = some rr) :
    own_Met l Z (⟨"com/example/objwire/objwire/ndr/NdrWriter", "writeU32", "(I)Lcom/example/objwire/objwire/ndr/NdrWriter;"⟩ : MethodName) prog_55_method_5_code 3 (some (.object "com/example/objwire/objwire/ndr/NdrWriter")) [] rmR6 #[(.ref o0), (.int x1)] h0 (fun v h L => Fr n0 L ∧ Keep h0 h [o0, da] ∧ E6 Z h0 o0 da vs rr v h) := by
  refine own_body pn6 ?_
  intro p e s m below meth c s₁ C X e0
  exact own_cast (ef6 m o0 x1) (b6_0 hw C Z0 rr (fun v h L a b c => ⟨a, b, c⟩) X e0 (Fr.nil n0) (Keep.refl h0 [o0, da]) o_o0_da g_o0 E_o0 F_o0_data F_o0_size V_da x1 hf)
theorem d7_0 : decode prog_55_method_10_code 0 = .ok (.iload_n 1, 1) := by decide +kernel
theorem d7_1 : decode prog_55_method_10_code 1 = .ok (.aload_n 0, 1) := by decide +kernel
theorem d7_2 : decode prog_55_method_10_code 2 = .ok (.getfield 13, 3) := by decide +kernel
theorem d7_5 : decode prog_55_method_10_code 5 = .ok (.iload_n 1, 1) := by decide +kernel
theorem d7_6 : decode prog_55_method_10_code 6 = .ok (.irem, 1) := by decide +kernel
theorem d7_7 : decode prog_55_method_10_code 7 = .ok (.isub, 1) := by decide +kernel
theorem d7_8 : decode prog_55_method_10_code 8 = .ok (.iload_n 1, 1) := by decide +kernel
theorem d7_9 : decode prog_55_method_10_code 9 = .ok (.irem, 1) := by decide +kernel
theorem d7_10 : decode prog_55_method_10_code 10 = .ok (.istore_n 2, 1) := by decide +kernel
theorem d7_11 : decode prog_55_method_10_code 11 = .ok (.aload_n 0, 1) := by decide +kernel
theorem d7_12 : decode prog_55_method_10_code 12 = .ok (.iload_n 2, 1) := by decide +kernel
theorem d7_13 : decode prog_55_method_10_code 13 = .ok (.invokevirtual 17, 3) := by decide +kernel
theorem d7_16 : decode prog_55_method_10_code 16 = .ok (.aload_n 0, 1) := by decide +kernel
theorem d7_17 : decode prog_55_method_10_code 17 = .ok (.dup, 1) := by decide +kernel
theorem d7_18 : decode prog_55_method_10_code 18 = .ok (.getfield 13, 3) := by decide +kernel
theorem d7_21 : decode prog_55_method_10_code 21 = .ok (.iload_n 2, 1) := by decide +kernel
theorem d7_22 : decode prog_55_method_10_code 22 = .ok (.iadd, 1) := by decide +kernel
theorem d7_23 : decode prog_55_method_10_code 23 = .ok (.putfield 13, 3) := by decide +kernel
theorem d7_26 : decode prog_55_method_10_code 26 = .ok (.aload_n 0, 1) := by decide +kernel
theorem d7_27 : decode prog_55_method_10_code 27 = .ok (.areturn, 1) := by decide +kernel
def rmR7 : Room := { frames := 3, cells := 1, slots := 256, locals := 46 }
def E7 (Z : State) (h0 : Heap) (o0 : Nat) (da : Nat) (vs : List Int32) (rr : Int32 × (List Int32)) (v : Option Value) (h : Heap) : Prop := ∃ dd, (dd = da ∨ h0.size ≤ dd) ∧ v = some (.ref o0) ∧ Exa Z h o0 "com/example/objwire/objwire/ndr/NdrWriter" ∧ Fld Z h o0 "com/example/objwire/objwire/ndr/NdrWriter" "data" "[B" (.ref dd) ∧ Fld Z h o0 "com/example/objwire/objwire/ndr/NdrWriter" "size" "I" (.int (rr.1)) ∧ own_AI Z h dd .byte (rr.2)
def f7_0 (vs : List Int32) (c_o0_size : Int32) (x1 : Int32) : Option (Int32 × (List Int32)) := (if x1 = (0 : Int32) then none else (if x1 = (0 : Int32) then none else ((f4_0 vs c_o0_size ((x1 - (c_o0_size % x1)) % x1)).bind fun rr2 => (some (((rr2.1) + ((x1 - (c_o0_size % x1)) % x1)), (rr2.2))))))
set_option maxRecDepth 65536 in
set_option maxHeartbeats 40000000 in
theorem b7_0 {p : Program} {l : Launch} {e : Env} {s : State} {m : MethodId} {args : Array Value} {below : List Frame} {meth : Method} {c : Code} {Z : State} {a0 : Array Value} {h0 : Heap} {n0 : Nat} {P : Option Value → Heap → List Loc → Prop} (hw : ∀ d ∈ tables_1, d.before a0 Z = true) (C : own_Ctx p s m meth c Z (⟨"com/example/objwire/objwire/ndr/NdrWriter", "align", "(I)Lcom/example/objwire/objwire/ndr/NdrWriter;"⟩ : MethodName) prog_55_method_10_code 3 (some (.object "com/example/objwire/objwire/ndr/NdrWriter"))) (Z0 : n0 ≤ h0.size) {o0 : Nat} {da : Nat} {vs : List Int32} (rr : Int32 × (List Int32)) (hP : ∀ v h L, Fr n0 L → Keep h0 h [o0, da] → E7 Z h0 o0 da vs rr v h → P v h L)
    {T : State} {locs : List Loc} {h : Heap} {c_o0_size : Int32} (X : Stand p l e rmR7 s m args below meth c T locs 0 0) (e0 : T.heap = h) (N : Fr n0 locs) (K : Keep h0 h [o0, da]) (o_o0_da : o0 < da) (g_o0 : n0 ≤ o0) (E_o0 : Exa Z h o0 "com/example/objwire/objwire/ndr/NdrWriter") (F_o0_data : Fld Z h o0 "com/example/objwire/objwire/ndr/NdrWriter" "data" "[B" (.ref da)) (F_o0_size : Fld Z h o0 "com/example/objwire/objwire/ndr/NdrWriter" "size" "I" (.int c_o0_size)) (V_da : own_AI Z h da .byte vs) (x1 : Int32) (hv : f7_0 vs c_o0_size x1 = some rr) :
    own_WP p e below (own_Q s P rmR7.cells rmR7.slots) T (mkF m 0 #[.val (.ref o0), .val (.int x1), .unset] []) := by
  obtain ⟨hx, hZ, hby, hml, hown, hnm, hret, hlk⟩ := id C
  replace hown : s.vm.findClass "com/example/objwire/objwire/ndr/NdrWriter" = some m.cls := hown
  unfold f7_0 at hv
  show own_WP p e below _ T (mkF m 0 #[.val (.ref o0), .val (.int x1), .unset] [])
  refine own_go (fun _ => XS.iloadN X.here hx rfl (hb hby d7_0) rfl) ?_
  show own_WP p e below _ T (mkF m 1 #[.val (.ref o0), .val (.int x1), .unset] [(.int x1)])
  refine own_go (fun _ => XS.aloadN X.here hx rfl (hb hby d7_1) rfl rfl) ?_
  show own_WP p e below _ T (mkF m 2 #[.val (.ref o0), .val (.int x1), .unset] [(.ref o0), (.int x1)])
  obtain ⟨T1, X1, e1, st1⟩ := getF X hx hZ hown (host := "") (Or.inl (hw _ (List.mem_of_getElem? (i := 21) rfl))) Via.refl e0 F_o0_size (g := (mkF m 2 #[.val (.ref o0), .val (.int x1), .unset] [(.ref o0), (.int x1)])) rfl rfl (hb hby d7_2)
  refine own_go st1 ?_
  show own_WP p e below _ T1 (mkF m 5 #[.val (.ref o0), .val (.int x1), .unset] [(.int c_o0_size), (.int x1)])
  refine own_go (fun _ => XS.iloadN X1.here hx rfl (hb hby d7_5) rfl) ?_
  show own_WP p e below _ T1 (mkF m 6 #[.val (.ref o0), .val (.int x1), .unset] [(.int x1), (.int c_o0_size), (.int x1)])
  by_cases h6 : x1 = (0 : Int32)
  · cases ((if_pos h6).symm.trans hv)
  replace hv := (if_neg h6).symm.trans hv
  refine own_go (fun _ => iremM X1 hx rfl (hb hby d7_6) rfl h6) ?_
  show own_WP p e below _ T1 (mkF m 7 #[.val (.ref o0), .val (.int x1), .unset] [(.int (c_o0_size % x1)), (.int x1)])
  refine own_go (fun _ => XS.isub X1.here hx rfl (hb hby d7_7) rfl) ?_
  show own_WP p e below _ T1 (mkF m 8 #[.val (.ref o0), .val (.int x1), .unset] [(.int (x1 - (c_o0_size % x1)))])
  refine own_go (fun _ => XS.iloadN X1.here hx rfl (hb hby d7_8) rfl) ?_
  show own_WP p e below _ T1 (mkF m 9 #[.val (.ref o0), .val (.int x1), .unset] [(.int x1), (.int (x1 - (c_o0_size % x1)))])
  by_cases h9 : x1 = (0 : Int32)
  · cases ((if_pos h9).symm.trans hv)
  replace hv := (if_neg h9).symm.trans hv
  refine own_go (fun _ => iremM X1 hx rfl (hb hby d7_9) rfl h9) ?_
  show own_WP p e below _ T1 (mkF m 10 #[.val (.ref o0), .val (.int x1), .unset] [(.int ((x1 - (c_o0_size % x1)) % x1))])
  refine own_go (fun _ => XS.istoreN X1.here hx rfl (hb hby d7_10) rfl (l' := #[.val (.ref o0), .val (.int x1), .val (.int ((x1 - (c_o0_size % x1)) % x1))]) rfl) ?_
  show own_WP p e below _ T1 (mkF m 11 #[.val (.ref o0), .val (.int x1), .val (.int ((x1 - (c_o0_size % x1)) % x1))] [])
  refine own_go (fun _ => XS.aloadN X1.here hx rfl (hb hby d7_11) rfl rfl) ?_
  show own_WP p e below _ T1 (mkF m 12 #[.val (.ref o0), .val (.int x1), .val (.int ((x1 - (c_o0_size % x1)) % x1))] [(.ref o0)])
  refine own_go (fun _ => XS.iloadN X1.here hx rfl (hb hby d7_12) rfl) ?_
  show own_WP p e below _ T1 (mkF m 13 #[.val (.ref o0), .val (.int x1), .val (.int ((x1 - (c_o0_size % x1)) % x1))] [(.int ((x1 - (c_o0_size % x1)) % x1)), (.ref o0)])
  obtain ⟨rr2, hf2, hv⟩ := own_bind hv
  obtain ⟨T2, v2, L2, X2, ⟨N2, K2, Q2⟩, st2⟩ := own_callR X1 C (a := o0) (argsL := [(.int ((x1 - (c_o0_size % x1)) % x1))]) (rm4 l Z a0 hw n0 h (by have q := K.1; omega) (by omega) (by omega) E_o0 F_o0_data F_o0_size V_da ((x1 - (c_o0_size % x1)) % x1) rr2 hf2) (hw _ (List.mem_of_getElem? (i := 17) rfl)) (own_selP (y2 := (⟨"com/example/objwire/objwire/ndr/NdrWriter", "writeU8", "(I)Lcom/example/objwire/objwire/ndr/NdrWriter;"⟩ : MethodName)) rfl (hw _ (List.mem_of_getElem? (i := 15) rfl)) (hw _ (List.mem_of_getElem? (i := 18) rfl)) (hw _ (List.mem_of_getElem? (i := 19) rfl)) (by decide)) (hw _ (List.mem_of_getElem? (i := 19) rfl)) (hw _ (List.mem_of_getElem? (i := 18) rfl)) (hw _ (List.mem_of_getElem? (i := 3) rfl)) (hw _ (List.mem_of_getElem? (i := 20) rfl)) (by decide) e1 E_o0 (W := 0) (pc := 13) (Ls := #[.val (.ref o0), .val (.int x1), .val (.int ((x1 - (c_o0_size % x1)) % x1))]) rfl (lenOf pd4 rfl) (rest := []) (stk := [(.int ((x1 - (c_o0_size % x1)) % x1)), (.ref o0)]) rfl (Nat.le_of_ble_eq_true rfl) (hb hby d7_13) (by decide) (by decide) (by decide) (by decide)
  replace N := Fr.app N N2
  have lt2 : da < h.size := V_da.lt
  have kz2 := K.1
  clear E_o0
  clear F_o0_data
  clear F_o0_size
  clear V_da
  obtain ⟨b13, zz2, rfl, E_o0, F_o0_data, F_o0_size, V_b13⟩ := Q2
  have o_o0_b13 : o0 < b13 := by omega
  have m_b13 : b13 = da ∨ h0.size ≤ b13 := zz2.elim Or.inl (fun q => Or.inr (by omega))
  replace K := K.trans K2 (allS (Or.inl (List.mem_of_getElem? (i := 0) rfl)) (allS (Or.inl (List.mem_of_getElem? (i := 1) rfl)) all0))
  refine own_go st2 ?_
  show own_WP p e below _ T2 (mkF m 16 #[.val (.ref o0), .val (.int x1), .val (.int ((x1 - (c_o0_size % x1)) % x1))] [])
  refine own_go (fun _ => XS.aloadN X2.here hx rfl (hb hby d7_16) rfl rfl) ?_
  show own_WP p e below _ T2 (mkF m 17 #[.val (.ref o0), .val (.int x1), .val (.int ((x1 - (c_o0_size % x1)) % x1))] [(.ref o0)])
  refine own_go (fun _ => XS.dup X2.here hx rfl (hb hby d7_17) rfl rfl) ?_
  show own_WP p e below _ T2 (mkF m 18 #[.val (.ref o0), .val (.int x1), .val (.int ((x1 - (c_o0_size % x1)) % x1))] [(.ref o0), (.ref o0)])
  obtain ⟨T3, X3, e3, st3⟩ := getF X2 hx hZ hown (host := "") (Or.inl (hw _ (List.mem_of_getElem? (i := 21) rfl))) Via.refl (rfl : T2.heap = T2.heap) F_o0_size (g := (mkF m 18 #[.val (.ref o0), .val (.int x1), .val (.int ((x1 - (c_o0_size % x1)) % x1))] [(.ref o0), (.ref o0)])) rfl rfl (hb hby d7_18)
  refine own_go st3 ?_
  show own_WP p e below _ T3 (mkF m 21 #[.val (.ref o0), .val (.int x1), .val (.int ((x1 - (c_o0_size % x1)) % x1))] [(.int (rr2.1)), (.ref o0)])
  refine own_go (fun _ => XS.iloadN X3.here hx rfl (hb hby d7_21) rfl) ?_
  show own_WP p e below _ T3 (mkF m 22 #[.val (.ref o0), .val (.int x1), .val (.int ((x1 - (c_o0_size % x1)) % x1))] [(.int ((x1 - (c_o0_size % x1)) % x1)), (.int (rr2.1)), (.ref o0)])
  refine own_go (fun _ => XS.iadd X3.here hx rfl (hb hby d7_22) rfl) ?_
  show own_WP p e below _ T3 (mkF m 23 #[.val (.ref o0), .val (.int x1), .val (.int ((x1 - (c_o0_size % x1)) % x1))] [(.int ((rr2.1) + ((x1 - (c_o0_size % x1)) % x1))), (.ref o0)])
  obtain ⟨T4, h4, X4, e4, W4, st4⟩ := putF X3 hx hZ hown (host := "") (Or.inl (hw _ (List.mem_of_getElem? (i := 21) rfl))) Via.refl e3 F_o0_size E_o0 (Or.inl (hw _ (List.mem_of_getElem? (i := 22) rfl))) (hw _ (List.mem_of_getElem? (i := 2) rfl)) (ty := .int) (by decide) rfl rfl (g := (mkF m 23 #[.val (.ref o0), .val (.int x1), .val (.int ((x1 - (c_o0_size % x1)) % x1))] [(.int ((rr2.1) + ((x1 - (c_o0_size % x1)) % x1))), (.ref o0)])) rfl rfl (hb hby d7_23)
  refine own_go st4 ?_
  replace E_o0 := E_o0.wr W4
  replace F_o0_data := F_o0_data.other W4 (Or.inr (slot_ne (Or.inl (hw _ (List.mem_of_getElem? (i := 11) rfl))) (Or.inl (hw _ (List.mem_of_getElem? (i := 22) rfl))) (by decide) (t := (.array .byte)) (t' := .int) (by decide) (by decide)))
  replace F_o0_size := F_o0_size.same W4
  replace V_b13 := V_b13.other W4 (own_ne (by omega))
  replace K := K.wr W4 (Or.inl (List.mem_of_getElem? (i := 0) rfl))
  replace N := Fr.snoc X4 N (by omega)
  show own_WP p e below _ T4 (mkF m 26 #[.val (.ref o0), .val (.int x1), .val (.int ((x1 - (c_o0_size % x1)) % x1))] [])
  refine own_go (fun _ => XS.aloadN X4.here hx rfl (hb hby d7_26) rfl rfl) ?_
  show own_WP p e below _ T4 (mkF m 27 #[.val (.ref o0), .val (.int x1), .val (.int ((x1 - (c_o0_size % x1)) % x1))] [(.ref o0)])
  obtain rfl := Option.some.inj hv
  exact own_retA X4 C rfl (hb hby d7_27) (by rw [e4]; exact hP _ _ _ N K ⟨b13, m_b13, rfl, E_o0, F_o0_data, F_o0_size, V_b13⟩) (by decide) (by decide)
theorem ef7 (m : MethodId) (o0 : Nat) (x1 : Int32) : entryFrame m #[(.ref o0), (.int x1)] 3 = (mkF m 0 #[.val (.ref o0), .val (.int x1), .unset] []) := by first | (simp [entryFrame, mkF, argsToLocals, Value.category]; done) | rfl
theorem pd7 : parseMethodDescriptor "(I)Lcom/example/objwire/objwire/ndr/NdrWriter;" = some ⟨[.int], some (.object "com/example/objwire/objwire/ndr/NdrWriter")⟩ := by decide +kernel
theorem pn7 : plainFor (⟨"com/example/objwire/objwire/ndr/NdrWriter", "align", "(I)Lcom/example/objwire/objwire/ndr/NdrWriter;"⟩ : MethodName) = true := plainFor_of_name (by first | (simp [plainName, overriddenIn]; done) | decide +kernel)
theorem rm7 (l : Launch) (Z : State) (a0 : Array Value) (hw : ∀ d ∈ tables_1, d.before a0 Z = true) (n0 : Nat) (h0 : Heap) (Z0 : n0 ≤ h0.size) {o0 : Nat} {da : Nat} {vs : List Int32} {c_o0_size : Int32} (o_o0_da : o0 < da) (g_o0 : n0 ≤ o0) (E_o0 : Exa Z h0 o0 "com/example/objwire/objwire/ndr/NdrWriter") (F_o0_data : Fld Z h0 o0 "com/example/objwire/objwire/ndr/NdrWriter" "data" "[B" (.ref da)) (F_o0_size : Fld Z h0 o0 "com/example/objwire/objwire/ndr/NdrWriter" "size" "I" (.int c_o0_size)) (V_da : own_AI Z h0 da .byte vs) (x1 : Int32)  (rr : Int32 × (List Int32)) (hf : f7_0 vs c_o0_size x1 = some rr) :
    own_Met l Z (⟨"com/example/objwire/objwire/ndr/NdrWriter", "align", "(I)Lcom/example/objwire/objwire/ndr/NdrWriter;"⟩ : MethodName) prog_55_method_10_code 3 (some (.object "com/example/objwire/objwire/ndr/NdrWriter")) [] rmR7 #[(.ref o0), (.int x1)] h0 (fun v h L => Fr n0 L ∧ Keep h0 h [o0, da] ∧ E7 Z h0 o0 da vs rr v h) := by
  refine own_body pn7 ?_
  intro p e s m below meth c s₁ C X e0
  exact own_cast (ef7 m o0 x1) (b7_0 hw C Z0 rr (fun v h L a b c => ⟨a, b, c⟩) X e0 (Fr.nil n0) (Keep.refl h0 [o0, da]) o_o0_da g_o0 E_o0 F_o0_data F_o0_size V_da x1 hf)
theorem d8_0 : decode prog_55_method_4_code 0 = .ok (.aload_n 0, 1) := by decide +kernel
theorem d8_1 : decode prog_55_method_4_code 1 = .ok (.iconst 2, 1) := by decide +kernel
theorem d8_2 : decode prog_55_method_4_code 2 = .ok (.invokevirtual 17, 3) := by decide +kernel
theorem d8_5 : decode prog_55_method_4_code 5 = .ok (.aload_n 0, 1) := by decide +kernel
theorem d8_6 : decode prog_55_method_4_code 6 = .ok (.getfield 7, 3) := by decide +kernel
theorem d8_9 : decode prog_55_method_4_code 9 = .ok (.aload_n 0, 1) := by decide +kernel
theorem d8_10 : decode prog_55_method_4_code 10 = .ok (.dup, 1) := by decide +kernel
theorem d8_11 : decode prog_55_method_4_code 11 = .ok (.getfield 13, 3) := by decide +kernel
theorem d8_14 : decode prog_55_method_4_code 14 = .ok (.dup_x1, 1) := by decide +kernel
theorem d8_15 : decode prog_55_method_4_code 15 = .ok (.iconst 1, 1) := by decide +kernel
theorem d8_16 : decode prog_55_method_4_code 16 = .ok (.iadd, 1) := by decide +kernel
theorem d8_17 : decode prog_55_method_4_code 17 = .ok (.putfield 13, 3) := by decide +kernel
theorem d8_20 : decode prog_55_method_4_code 20 = .ok (.iload_n 1, 1) := by decide +kernel
theorem d8_21 : decode prog_55_method_4_code 21 = .ok (.i2b, 1) := by decide +kernel
theorem d8_22 : decode prog_55_method_4_code 22 = .ok (.bastore, 1) := by decide +kernel
theorem d8_23 : decode prog_55_method_4_code 23 = .ok (.aload_n 0, 1) := by decide +kernel
theorem d8_24 : decode prog_55_method_4_code 24 = .ok (.getfield 7, 3) := by decide +kernel
theorem d8_27 : decode prog_55_method_4_code 27 = .ok (.aload_n 0, 1) := by decide +kernel
theorem d8_28 : decode prog_55_method_4_code 28 = .ok (.dup, 1) := by decide +kernel
theorem d8_29 : decode prog_55_method_4_code 29 = .ok (.getfield 13, 3) := by decide +kernel
theorem d8_32 : decode prog_55_method_4_code 32 = .ok (.dup_x1, 1) := by decide +kernel
theorem d8_33 : decode prog_55_method_4_code 33 = .ok (.iconst 1, 1) := by decide +kernel
theorem d8_34 : decode prog_55_method_4_code 34 = .ok (.iadd, 1) := by decide +kernel
theorem d8_35 : decode prog_55_method_4_code 35 = .ok (.putfield 13, 3) := by decide +kernel
theorem d8_38 : decode prog_55_method_4_code 38 = .ok (.iload_n 1, 1) := by decide +kernel
theorem d8_39 : decode prog_55_method_4_code 39 = .ok (.bipush 8, 2) := by decide +kernel
theorem d8_41 : decode prog_55_method_4_code 41 = .ok (.iushr, 1) := by decide +kernel
theorem d8_42 : decode prog_55_method_4_code 42 = .ok (.i2b, 1) := by decide +kernel
theorem d8_43 : decode prog_55_method_4_code 43 = .ok (.bastore, 1) := by decide +kernel
theorem d8_44 : decode prog_55_method_4_code 44 = .ok (.aload_n 0, 1) := by decide +kernel
theorem d8_45 : decode prog_55_method_4_code 45 = .ok (.areturn, 1) := by decide +kernel
def rmR8 : Room := { frames := 3, cells := 1, slots := 256, locals := 46 }
def E8 (Z : State) (h0 : Heap) (o0 : Nat) (da : Nat) (vs : List Int32) (rr : Int32 × (List Int32)) (v : Option Value) (h : Heap) : Prop := ∃ dd, (dd = da ∨ h0.size ≤ dd) ∧ v = some (.ref o0) ∧ Exa Z h o0 "com/example/objwire/objwire/ndr/NdrWriter" ∧ Fld Z h o0 "com/example/objwire/objwire/ndr/NdrWriter" "data" "[B" (.ref dd) ∧ Fld Z h o0 "com/example/objwire/objwire/ndr/NdrWriter" "size" "I" (.int (rr.1)) ∧ own_AI Z h dd .byte (rr.2)
def f8_0 (vs : List Int32) (c_o0_size : Int32) (x1 : Int32) : Option (Int32 × (List Int32)) := ((f4_0 vs c_o0_size (2 : Int32)).bind fun rr1 => ((own_set (rr1.2) (rr1.1) ((x1.toInt8.toInt32).toInt8.toInt32)).bind fun u5 => ((own_set u5 ((rr1.1) + (1 : Int32)) (((XT.ushr x1 (8 : Int32)).toInt8.toInt32).toInt8.toInt32)).bind fun u9 => (some ((((rr1.1) + (1 : Int32)) + (1 : Int32)), u9)))))
set_option maxRecDepth 65536 in
set_option maxHeartbeats 40000000 in
theorem b8_0 {p : Program} {l : Launch} {e : Env} {s : State} {m : MethodId} {args : Array Value} {below : List Frame} {meth : Method} {c : Code} {Z : State} {a0 : Array Value} {h0 : Heap} {n0 : Nat} {P : Option Value → Heap → List Loc → Prop} (hw : ∀ d ∈ tables_1, d.before a0 Z = true) (C : own_Ctx p s m meth c Z (⟨"com/example/objwire/objwire/ndr/NdrWriter", "writeU16", "(I)Lcom/example/objwire/objwire/ndr/NdrWriter;"⟩ : MethodName) prog_55_method_4_code 2 (some (.object "com/example/objwire/objwire/ndr/NdrWriter"))) (Z0 : n0 ≤ h0.size) {o0 : Nat} {da : Nat} {vs : List Int32} (rr : Int32 × (List Int32)) (hP : ∀ v h L, Fr n0 L → Keep h0 h [o0, da] → E8 Z h0 o0 da vs rr v h → P v h L)
    {T : State} {locs : List Loc} {h : Heap} {c_o0_size : Int32} (X : Stand p l e rmR8 s m args below meth c T locs 0 0) (e0 : T.heap = h) (N : Fr n0 locs) (K : Keep h0 h [o0, da]) (o_o0_da : o0 < da) (g_o0 : n0 ≤ o0) (E_o0 : Exa Z h o0 "com/example/objwire/objwire/ndr/NdrWriter") (F_o0_data : Fld Z h o0 "com/example/objwire/objwire/ndr/NdrWriter" "data" "[B" (.ref da)) (F_o0_size : Fld Z h o0 "com/example/objwire/objwire/ndr/NdrWriter" "size" "I" (.int c_o0_size)) (V_da : own_AI Z h da .byte vs) (x1 : Int32) (hv : f8_0 vs c_o0_size x1 = some rr) :
    own_WP p e below (own_Q s P rmR8.cells rmR8.slots) T (mkF m 0 #[.val (.ref o0), .val (.int x1)] []) := by
  obtain ⟨hx, hZ, hby, hml, hown, hnm, hret, hlk⟩ := id C
  replace hown : s.vm.findClass "com/example/objwire/objwire/ndr/NdrWriter" = some m.cls := hown
  unfold f8_0 at hv
  show own_WP p e below _ T (mkF m 0 #[.val (.ref o0), .val (.int x1)] [])
  refine own_go (fun _ => XS.aloadN X.here hx rfl (hb hby d8_0) rfl rfl) ?_
  show own_WP p e below _ T (mkF m 1 #[.val (.ref o0), .val (.int x1)] [(.ref o0)])
  refine own_go (fun _ => XS.iconst X.here hx rfl (hb hby d8_1)) ?_
  show own_WP p e below _ T (mkF m 2 #[.val (.ref o0), .val (.int x1)] [(.int (2 : Int32)), (.ref o0)])
  obtain ⟨rr1, hf1, hv⟩ := own_bind hv
  obtain ⟨T1, v1, L1, X1, ⟨N1, K1, Q1⟩, st1⟩ := own_callR X C (a := o0) (argsL := [(.int (2 : Int32))]) (rm4 l Z a0 hw n0 h (by have q := K.1; omega) (by omega) (by omega) E_o0 F_o0_data F_o0_size V_da (2 : Int32) rr1 hf1) (hw _ (List.mem_of_getElem? (i := 17) rfl)) (own_selP (y2 := (⟨"com/example/objwire/objwire/ndr/NdrWriter", "writeU8", "(I)Lcom/example/objwire/objwire/ndr/NdrWriter;"⟩ : MethodName)) rfl (hw _ (List.mem_of_getElem? (i := 15) rfl)) (hw _ (List.mem_of_getElem? (i := 18) rfl)) (hw _ (List.mem_of_getElem? (i := 19) rfl)) (by decide)) (hw _ (List.mem_of_getElem? (i := 19) rfl)) (hw _ (List.mem_of_getElem? (i := 18) rfl)) (hw _ (List.mem_of_getElem? (i := 3) rfl)) (hw _ (List.mem_of_getElem? (i := 20) rfl)) (by decide) e0 E_o0 (W := 0) (pc := 2) (Ls := #[.val (.ref o0), .val (.int x1)]) rfl (lenOf pd4 rfl) (rest := []) (stk := [(.int (2 : Int32)), (.ref o0)]) rfl (Nat.le_of_ble_eq_true rfl) (hb hby d8_2) (by decide) (by decide) (by decide) (by decide)
  replace N := Fr.app N N1
  have lt1 : da < h.size := V_da.lt
  have kz1 := K.1
  clear E_o0
  clear F_o0_data
  clear F_o0_size
  clear V_da
  obtain ⟨b2, zz1, rfl, E_o0, F_o0_data, F_o0_size, V_b2⟩ := Q1
  have o_o0_b2 : o0 < b2 := by omega
  have m_b2 : b2 = da ∨ h0.size ≤ b2 := zz1.elim Or.inl (fun q => Or.inr (by omega))
  replace K := K.trans K1 (allS (Or.inl (List.mem_of_getElem? (i := 0) rfl)) (allS (Or.inl (List.mem_of_getElem? (i := 1) rfl)) all0))
  refine own_go st1 ?_
  show own_WP p e below _ T1 (mkF m 5 #[.val (.ref o0), .val (.int x1)] [])
  refine own_go (fun _ => XS.aloadN X1.here hx rfl (hb hby d8_5) rfl rfl) ?_
  show own_WP p e below _ T1 (mkF m 6 #[.val (.ref o0), .val (.int x1)] [(.ref o0)])
  obtain ⟨T2, X2, e2, st2⟩ := getF X1 hx hZ hown (host := "") (Or.inl (hw _ (List.mem_of_getElem? (i := 10) rfl))) Via.refl (rfl : T1.heap = T1.heap) F_o0_data (g := (mkF m 6 #[.val (.ref o0), .val (.int x1)] [(.ref o0)])) rfl rfl (hb hby d8_6)
  refine own_go st2 ?_
  show own_WP p e below _ T2 (mkF m 9 #[.val (.ref o0), .val (.int x1)] [(.ref b2)])
  refine own_go (fun _ => XS.aloadN X2.here hx rfl (hb hby d8_9) rfl rfl) ?_
  show own_WP p e below _ T2 (mkF m 10 #[.val (.ref o0), .val (.int x1)] [(.ref o0), (.ref b2)])
  refine own_go (fun _ => XS.dup X2.here hx rfl (hb hby d8_10) rfl rfl) ?_
  show own_WP p e below _ T2 (mkF m 11 #[.val (.ref o0), .val (.int x1)] [(.ref o0), (.ref o0), (.ref b2)])
  obtain ⟨T3, X3, e3, st3⟩ := getF X2 hx hZ hown (host := "") (Or.inl (hw _ (List.mem_of_getElem? (i := 21) rfl))) Via.refl e2 F_o0_size (g := (mkF m 11 #[.val (.ref o0), .val (.int x1)] [(.ref o0), (.ref o0), (.ref b2)])) rfl rfl (hb hby d8_11)
  refine own_go st3 ?_
  show own_WP p e below _ T3 (mkF m 14 #[.val (.ref o0), .val (.int x1)] [(.int (rr1.1)), (.ref o0), (.ref b2)])
  refine own_go (fun _ => XS.dupX1 X3.here hx rfl (hb hby d8_14) rfl rfl rfl) ?_
  show own_WP p e below _ T3 (mkF m 15 #[.val (.ref o0), .val (.int x1)] [(.int (rr1.1)), (.ref o0), (.int (rr1.1)), (.ref b2)])
  refine own_go (fun _ => XS.iconst X3.here hx rfl (hb hby d8_15)) ?_
  show own_WP p e below _ T3 (mkF m 16 #[.val (.ref o0), .val (.int x1)] [(.int (1 : Int32)), (.int (rr1.1)), (.ref o0), (.int (rr1.1)), (.ref b2)])
  refine own_go (fun _ => XS.iadd X3.here hx rfl (hb hby d8_16) rfl) ?_
  show own_WP p e below _ T3 (mkF m 17 #[.val (.ref o0), .val (.int x1)] [(.int ((rr1.1) + (1 : Int32))), (.ref o0), (.int (rr1.1)), (.ref b2)])
  obtain ⟨T4, h4, X4, e4, W4, st4⟩ := putF X3 hx hZ hown (host := "") (Or.inl (hw _ (List.mem_of_getElem? (i := 21) rfl))) Via.refl e3 F_o0_size E_o0 (Or.inl (hw _ (List.mem_of_getElem? (i := 22) rfl))) (hw _ (List.mem_of_getElem? (i := 2) rfl)) (ty := .int) (by decide) rfl rfl (g := (mkF m 17 #[.val (.ref o0), .val (.int x1)] [(.int ((rr1.1) + (1 : Int32))), (.ref o0), (.int (rr1.1)), (.ref b2)])) rfl rfl (hb hby d8_17)
  refine own_go st4 ?_
  replace E_o0 := E_o0.wr W4
  replace F_o0_data := F_o0_data.other W4 (Or.inr (slot_ne (Or.inl (hw _ (List.mem_of_getElem? (i := 11) rfl))) (Or.inl (hw _ (List.mem_of_getElem? (i := 22) rfl))) (by decide) (t := (.array .byte)) (t' := .int) (by decide) (by decide)))
  replace F_o0_size := F_o0_size.same W4
  replace V_b2 := V_b2.other W4 (own_ne (by omega))
  replace K := K.wr W4 (Or.inl (List.mem_of_getElem? (i := 0) rfl))
  replace N := Fr.snoc X4 N (by omega)
  show own_WP p e below _ T4 (mkF m 20 #[.val (.ref o0), .val (.int x1)] [(.int (rr1.1)), (.ref b2)])
  refine own_go (fun _ => XS.iloadN X4.here hx rfl (hb hby d8_20) rfl) ?_
  show own_WP p e below _ T4 (mkF m 21 #[.val (.ref o0), .val (.int x1)] [(.int x1), (.int (rr1.1)), (.ref b2)])
  refine own_go (fun _ => XS.i2b X4.here hx rfl (hb hby d8_21) rfl) ?_
  show own_WP p e below _ T4 (mkF m 22 #[.val (.ref o0), .val (.int x1)] [(.int (x1.toInt8.toInt32)), (.int (rr1.1)), (.ref b2)])
  obtain ⟨u5, hg5, hv⟩ := own_bind hv
  obtain ⟨T5, h5, X5, e5, W5, V'5, st5⟩ := own_bastore X4 C e4 V_b2 (j := (rr1.1)) (x := (x1.toInt8.toInt32)) hg5 (hb hby d8_22)
  refine own_go st5 ?_
  replace E_o0 := E_o0.wr W5
  replace F_o0_data := F_o0_data.other W5 (Or.inl (own_ne (by omega)))
  replace F_o0_size := F_o0_size.other W5 (Or.inl (own_ne (by omega)))
  replace V_b2 := V'5
  clear V'5
  replace K := K.wr W5 (m_b2.elim (fun q => Or.inl (by rw [q]; exact List.mem_of_getElem? (i := 1) rfl)) Or.inr)
  replace N := Fr.snoc X5 N (by omega)
  show own_WP p e below _ T5 (mkF m 23 #[.val (.ref o0), .val (.int x1)] [])
  refine own_go (fun _ => XS.aloadN X5.here hx rfl (hb hby d8_23) rfl rfl) ?_
  show own_WP p e below _ T5 (mkF m 24 #[.val (.ref o0), .val (.int x1)] [(.ref o0)])
  obtain ⟨T6, X6, e6, st6⟩ := getF X5 hx hZ hown (host := "") (Or.inl (hw _ (List.mem_of_getElem? (i := 10) rfl))) Via.refl e5 F_o0_data (g := (mkF m 24 #[.val (.ref o0), .val (.int x1)] [(.ref o0)])) rfl rfl (hb hby d8_24)
  refine own_go st6 ?_
  show own_WP p e below _ T6 (mkF m 27 #[.val (.ref o0), .val (.int x1)] [(.ref b2)])
  refine own_go (fun _ => XS.aloadN X6.here hx rfl (hb hby d8_27) rfl rfl) ?_
  show own_WP p e below _ T6 (mkF m 28 #[.val (.ref o0), .val (.int x1)] [(.ref o0), (.ref b2)])
  refine own_go (fun _ => XS.dup X6.here hx rfl (hb hby d8_28) rfl rfl) ?_
  show own_WP p e below _ T6 (mkF m 29 #[.val (.ref o0), .val (.int x1)] [(.ref o0), (.ref o0), (.ref b2)])
  obtain ⟨T7, X7, e7, st7⟩ := getF X6 hx hZ hown (host := "") (Or.inl (hw _ (List.mem_of_getElem? (i := 21) rfl))) Via.refl e6 F_o0_size (g := (mkF m 29 #[.val (.ref o0), .val (.int x1)] [(.ref o0), (.ref o0), (.ref b2)])) rfl rfl (hb hby d8_29)
  refine own_go st7 ?_
  show own_WP p e below _ T7 (mkF m 32 #[.val (.ref o0), .val (.int x1)] [(.int ((rr1.1) + (1 : Int32))), (.ref o0), (.ref b2)])
  refine own_go (fun _ => XS.dupX1 X7.here hx rfl (hb hby d8_32) rfl rfl rfl) ?_
  show own_WP p e below _ T7 (mkF m 33 #[.val (.ref o0), .val (.int x1)] [(.int ((rr1.1) + (1 : Int32))), (.ref o0), (.int ((rr1.1) + (1 : Int32))), (.ref b2)])
  refine own_go (fun _ => XS.iconst X7.here hx rfl (hb hby d8_33)) ?_
  show own_WP p e below _ T7 (mkF m 34 #[.val (.ref o0), .val (.int x1)] [(.int (1 : Int32)), (.int ((rr1.1) + (1 : Int32))), (.ref o0), (.int ((rr1.1) + (1 : Int32))), (.ref b2)])
  refine own_go (fun _ => XS.iadd X7.here hx rfl (hb hby d8_34) rfl) ?_
  show own_WP p e below _ T7 (mkF m 35 #[.val (.ref o0), .val (.int x1)] [(.int (((rr1.1) + (1 : Int32)) + (1 : Int32))), (.ref o0), (.int ((rr1.1) + (1 : Int32))), (.ref b2)])
  obtain ⟨T8, h8, X8, e8, W8, st8⟩ := putF X7 hx hZ hown (host := "") (Or.inl (hw _ (List.mem_of_getElem? (i := 21) rfl))) Via.refl e7 F_o0_size E_o0 (Or.inl (hw _ (List.mem_of_getElem? (i := 22) rfl))) (hw _ (List.mem_of_getElem? (i := 2) rfl)) (ty := .int) (by decide) rfl rfl (g := (mkF m 35 #[.val (.ref o0), .val (.int x1)] [(.int (((rr1.1) + (1 : Int32)) + (1 : Int32))), (.ref o0), (.int ((rr1.1) + (1 : Int32))), (.ref b2)])) rfl rfl (hb hby d8_35)
  refine own_go st8 ?_
  replace E_o0 := E_o0.wr W8
  replace F_o0_data := F_o0_data.other W8 (Or.inr (slot_ne (Or.inl (hw _ (List.mem_of_getElem? (i := 11) rfl))) (Or.inl (hw _ (List.mem_of_getElem? (i := 22) rfl))) (by decide) (t := (.array .byte)) (t' := .int) (by decide) (by decide)))
  replace F_o0_size := F_o0_size.same W8
  replace V_b2 := V_b2.other W8 (own_ne (by omega))
  replace K := K.wr W8 (Or.inl (List.mem_of_getElem? (i := 0) rfl))
  replace N := Fr.snoc X8 N (by omega)
  show own_WP p e below _ T8 (mkF m 38 #[.val (.ref o0), .val (.int x1)] [(.int ((rr1.1) + (1 : Int32))), (.ref b2)])
  refine own_go (fun _ => XS.iloadN X8.here hx rfl (hb hby d8_38) rfl) ?_
  show own_WP p e below _ T8 (mkF m 39 #[.val (.ref o0), .val (.int x1)] [(.int x1), (.int ((rr1.1) + (1 : Int32))), (.ref b2)])
  refine own_go (fun _ => XS.bipush X8.here hx rfl (hb hby d8_39)) ?_
  show own_WP p e below _ T8 (mkF m 41 #[.val (.ref o0), .val (.int x1)] [(.int (8 : Int32)), (.int x1), (.int ((rr1.1) + (1 : Int32))), (.ref b2)])
  refine own_go (fun _ => XT.iushr X8.here hx rfl (hb hby d8_41) rfl) ?_
  show own_WP p e below _ T8 (mkF m 42 #[.val (.ref o0), .val (.int x1)] [(.int (XT.ushr x1 (8 : Int32))), (.int ((rr1.1) + (1 : Int32))), (.ref b2)])
  refine own_go (fun _ => XS.i2b X8.here hx rfl (hb hby d8_42) rfl) ?_
  show own_WP p e below _ T8 (mkF m 43 #[.val (.ref o0), .val (.int x1)] [(.int ((XT.ushr x1 (8 : Int32)).toInt8.toInt32)), (.int ((rr1.1) + (1 : Int32))), (.ref b2)])
  obtain ⟨u9, hg9, hv⟩ := own_bind hv
  obtain ⟨T9, h9, X9, e9, W9, V'9, st9⟩ := own_bastore X8 C e8 V_b2 (j := ((rr1.1) + (1 : Int32))) (x := ((XT.ushr x1 (8 : Int32)).toInt8.toInt32)) hg9 (hb hby d8_43)
  refine own_go st9 ?_
  replace E_o0 := E_o0.wr W9
  replace F_o0_data := F_o0_data.other W9 (Or.inl (own_ne (by omega)))
  replace F_o0_size := F_o0_size.other W9 (Or.inl (own_ne (by omega)))
  replace V_b2 := V'9
  clear V'9
  replace K := K.wr W9 (m_b2.elim (fun q => Or.inl (by rw [q]; exact List.mem_of_getElem? (i := 1) rfl)) Or.inr)
  replace N := Fr.snoc X9 N (by omega)
  show own_WP p e below _ T9 (mkF m 44 #[.val (.ref o0), .val (.int x1)] [])
  refine own_go (fun _ => XS.aloadN X9.here hx rfl (hb hby d8_44) rfl rfl) ?_
  show own_WP p e below _ T9 (mkF m 45 #[.val (.ref o0), .val (.int x1)] [(.ref o0)])
  obtain rfl := Option.some.inj hv
  exact own_retA X9 C rfl (hb hby d8_45) (by rw [e9]; exact hP _ _ _ N K ⟨b2, m_b2, rfl, E_o0, F_o0_data, F_o0_size, V_b2⟩) (by decide) (by decide)
theorem ef8 (m : MethodId) (o0 : Nat) (x1 : Int32) : entryFrame m #[(.ref o0), (.int x1)] 2 = (mkF m 0 #[.val (.ref o0), .val (.int x1)] []) := by first | (simp [entryFrame, mkF, argsToLocals, Value.category]; done) | rfl
theorem pd8 : parseMethodDescriptor "(I)Lcom/example/objwire/objwire/ndr/NdrWriter;" = some ⟨[.int], some (.object "com/example/objwire/objwire/ndr/NdrWriter")⟩ := by decide +kernel
theorem pn8 : plainFor (⟨"com/example/objwire/objwire/ndr/NdrWriter", "writeU16", "(I)Lcom/example/objwire/objwire/ndr/NdrWriter;"⟩ : MethodName) = true := plainFor_of_name (by first | (simp [plainName, overriddenIn]; done) | decide +kernel)
theorem rm8 (l : Launch) (Z : State) (a0 : Array Value) (hw : ∀ d ∈ tables_1, d.before a0 Z = true) (n0 : Nat) (h0 : Heap) (Z0 : n0 ≤ h0.size) {o0 : Nat} {da : Nat} {vs : List Int32} {c_o0_size : Int32} (o_o0_da : o0 < da) (g_o0 : n0 ≤ o0) (E_o0 : Exa Z h0 o0 "com/example/objwire/objwire/ndr/NdrWriter") (F_o0_data : Fld Z h0 o0 "com/example/objwire/objwire/ndr/NdrWriter" "data" "[B" (.ref da)) (F_o0_size : Fld Z h0 o0 "com/example/objwire/objwire/ndr/NdrWriter" "size" "I" (.int c_o0_size)) (V_da : own_AI Z h0 da .byte vs) (x1 : Int32)  (rr : Int32 × (List Int32)) (hf : f8_0 vs c_o0_size x1 = some rr) :
    own_Met l Z (⟨"com/example/objwire/objwire/ndr/NdrWriter", "writeU16", "(I)Lcom/example/objwire/objwire/ndr/NdrWriter;"⟩ : MethodName) prog_55_method_4_code 2 (some (.object "com/example/objwire/objwire/ndr/NdrWriter")) [] rmR8 #[(.ref o0), (.int x1)] h0 (fun v h L => Fr n0 L ∧ Keep h0 h [o0, da] ∧ E8 Z h0 o0 da vs rr v h) := by
  refine own_body pn8 ?_
  intro p e s m below meth c s₁ C X e0
  exact own_cast (ef8 m o0 x1) (b8_0 hw C Z0 rr (fun v h L a b c => ⟨a, b, c⟩) X e0 (Fr.nil n0) (Keep.refl h0 [o0, da]) o_o0_da g_o0 E_o0 F_o0_data F_o0_size V_da x1 hf)
theorem d5_0 : decode prog_55_method_9_code 0 = .ok (.aload_n 0, 1) := by decide +kernel
theorem d5_1 : decode prog_55_method_9_code 1 = .ok (.aload_n 1, 1) := by decide +kernel
theorem d5_2 : decode prog_55_method_9_code 2 = .ok (.arraylength, 1) := by decide +kernel
theorem d5_3 : decode prog_55_method_9_code 3 = .ok (.invokevirtual 17, 3) := by decide +kernel
theorem d5_6 : decode prog_55_method_9_code 6 = .ok (.aload_n 1, 1) := by decide +kernel
theorem d5_7 : decode prog_55_method_9_code 7 = .ok (.iconst 0, 1) := by decide +kernel
theorem d5_8 : decode prog_55_method_9_code 8 = .ok (.aload_n 0, 1) := by decide +kernel
theorem d5_9 : decode prog_55_method_9_code 9 = .ok (.getfield 7, 3) := by decide +kernel
theorem d5_12 : decode prog_55_method_9_code 12 = .ok (.aload_n 0, 1) := by decide +kernel
theorem d5_13 : decode prog_55_method_9_code 13 = .ok (.getfield 13, 3) := by decide +kernel
theorem d5_16 : decode prog_55_method_9_code 16 = .ok (.aload_n 1, 1) := by decide +kernel
theorem d5_17 : decode prog_55_method_9_code 17 = .ok (.arraylength, 1) := by decide +kernel
theorem d5_18 : decode prog_55_method_9_code 18 = .ok (.invokestatic 41, 3) := by decide +kernel
theorem d5_21 : decode prog_55_method_9_code 21 = .ok (.aload_n 0, 1) := by decide +kernel
theorem d5_22 : decode prog_55_method_9_code 22 = .ok (.dup, 1) := by decide +kernel
theorem d5_23 : decode prog_55_method_9_code 23 = .ok (.getfield 13, 3) := by decide +kernel
theorem d5_26 : decode prog_55_method_9_code 26 = .ok (.aload_n 1, 1) := by decide +kernel
theorem d5_27 : decode prog_55_method_9_code 27 = .ok (.arraylength, 1) := by decide +kernel
theorem d5_28 : decode prog_55_method_9_code 28 = .ok (.iadd, 1) := by decide +kernel
theorem d5_29 : decode prog_55_method_9_code 29 = .ok (.putfield 13, 3) := by decide +kernel
theorem d5_32 : decode prog_55_method_9_code 32 = .ok (.aload_n 0, 1) := by decide +kernel
theorem d5_33 : decode prog_55_method_9_code 33 = .ok (.areturn, 1) := by decide +kernel
def rmR5 : Room := { frames := 3, cells := 1, slots := 256, locals := 46 }
def E5 (Z : State) (h0 : Heap) (o1 : Nat) (o0 : Nat) (da : Nat) (bs : List Int32) (vs : List Int32) (rr : Int32 × (List Int32)) (v : Option Value) (h : Heap) : Prop := ∃ dd, (dd = da ∨ h0.size ≤ dd) ∧ v = some (.ref o0) ∧ Exa Z h o0 "com/example/objwire/objwire/ndr/NdrWriter" ∧ Fld Z h o0 "com/example/objwire/objwire/ndr/NdrWriter" "data" "[B" (.ref dd) ∧ Fld Z h o0 "com/example/objwire/objwire/ndr/NdrWriter" "size" "I" (.int (rr.1)) ∧ own_AI Z h dd .byte (rr.2)
def f5_0 (bs : List Int32) (vs : List Int32) (c_o0_size : Int32) : Option (Int32 × (List Int32)) := ((f4_0 vs c_o0_size (Int32.ofNat bs.length)).bind fun rr1 => ((own_copyL bs (0 : Int32) (rr1.2) (rr1.1) (Int32.ofNat bs.length)).bind fun u4 => (some (((rr1.1) + (Int32.ofNat bs.length)), u4))))
set_option maxRecDepth 65536 in
set_option maxHeartbeats 40000000 in
theorem b5_0 {p : Program} {l : Launch} {e : Env} {s : State} {m : MethodId} {args : Array Value} {below : List Frame} {meth : Method} {c : Code} {Z : State} {a0 : Array Value} {h0 : Heap} {n0 : Nat} {P : Option Value → Heap → List Loc → Prop} (hw : ∀ d ∈ tables_1, d.before a0 Z = true) (C : own_Ctx p s m meth c Z (⟨"com/example/objwire/objwire/ndr/NdrWriter", "writeBytes", "([B)Lcom/example/objwire/objwire/ndr/NdrWriter;"⟩ : MethodName) prog_55_method_9_code 2 (some (.object "com/example/objwire/objwire/ndr/NdrWriter"))) (Z0 : n0 ≤ h0.size) {o1 : Nat} {o0 : Nat} {da : Nat} {bs : List Int32} {vs : List Int32} (rr : Int32 × (List Int32)) (hP : ∀ v h L, Fr n0 L → Keep h0 h [o0, da] → E5 Z h0 o1 o0 da bs vs rr v h → P v h L)
    {T : State} {locs : List Loc} {h : Heap} {c_o0_size : Int32} (X : Stand p l e rmR5 s m args below meth c T locs 0 0) (e0 : T.heap = h) (N : Fr n0 locs) (K : Keep h0 h [o0, da]) (o_o1_o0 : o1 < o0) (o_o0_da : o0 < da) (g_o1 : n0 ≤ o1) (V_o1 : own_AI Z h o1 .byte bs) (E_o0 : Exa Z h o0 "com/example/objwire/objwire/ndr/NdrWriter") (F_o0_data : Fld Z h o0 "com/example/objwire/objwire/ndr/NdrWriter" "data" "[B" (.ref da)) (F_o0_size : Fld Z h o0 "com/example/objwire/objwire/ndr/NdrWriter" "size" "I" (.int c_o0_size)) (V_da : own_AI Z h da .byte vs) (hv : f5_0 bs vs c_o0_size = some rr) :
    own_WP p e below (own_Q s P rmR5.cells rmR5.slots) T (mkF m 0 #[.val (.ref o0), .val (.ref o1)] []) := by
  obtain ⟨hx, hZ, hby, hml, hown, hnm, hret, hlk⟩ := id C
  replace hown : s.vm.findClass "com/example/objwire/objwire/ndr/NdrWriter" = some m.cls := hown
  unfold f5_0 at hv
  show own_WP p e below _ T (mkF m 0 #[.val (.ref o0), .val (.ref o1)] [])
  refine own_go (fun _ => XS.aloadN X.here hx rfl (hb hby d5_0) rfl rfl) ?_
  show own_WP p e below _ T (mkF m 1 #[.val (.ref o0), .val (.ref o1)] [(.ref o0)])
  refine own_go (fun _ => XS.aloadN X.here hx rfl (hb hby d5_1) rfl rfl) ?_
  show own_WP p e below _ T (mkF m 2 #[.val (.ref o0), .val (.ref o1)] [(.ref o1), (.ref o0)])
  refine own_go (own_lenI X C e0 V_o1 (hb hby d5_2)) ?_
  show own_WP p e below _ T (mkF m 3 #[.val (.ref o0), .val (.ref o1)] [(.int (Int32.ofNat bs.length)), (.ref o0)])
  obtain ⟨rr1, hf1, hv⟩ := own_bind hv
  obtain ⟨T1, v1, L1, X1, ⟨N1, K1, Q1⟩, st1⟩ := own_callR X C (a := o0) (argsL := [(.int (Int32.ofNat bs.length))]) (rm4 l Z a0 hw n0 h (by have q := K.1; omega) (by omega) (by omega) E_o0 F_o0_data F_o0_size V_da (Int32.ofNat bs.length) rr1 hf1) (hw _ (List.mem_of_getElem? (i := 17) rfl)) (own_selP (y2 := (⟨"com/example/objwire/objwire/ndr/NdrWriter", "writeU8", "(I)Lcom/example/objwire/objwire/ndr/NdrWriter;"⟩ : MethodName)) rfl (hw _ (List.mem_of_getElem? (i := 15) rfl)) (hw _ (List.mem_of_getElem? (i := 18) rfl)) (hw _ (List.mem_of_getElem? (i := 19) rfl)) (by decide)) (hw _ (List.mem_of_getElem? (i := 19) rfl)) (hw _ (List.mem_of_getElem? (i := 18) rfl)) (hw _ (List.mem_of_getElem? (i := 3) rfl)) (hw _ (List.mem_of_getElem? (i := 20) rfl)) (by decide) e0 E_o0 (W := 0) (pc := 3) (Ls := #[.val (.ref o0), .val (.ref o1)]) rfl (lenOf pd4 rfl) (rest := []) (stk := [(.int (Int32.ofNat bs.length)), (.ref o0)]) rfl (Nat.le_of_ble_eq_true rfl) (hb hby d5_3) (by decide) (by decide) (by decide) (by decide)
  replace N := Fr.app N N1
  have lt1 : da < h.size := V_da.lt
  have kz1 := K.1
  replace V_o1 := V_o1.keep K1 (ninS (own_ne (by omega)) (ninS (own_ne (by omega)) nin0))
  clear E_o0
  clear F_o0_data
  clear F_o0_size
  clear V_da
  obtain ⟨b3, zz1, rfl, E_o0, F_o0_data, F_o0_size, V_b3⟩ := Q1
  have o_o0_b3 : o0 < b3 := by omega
  have m_b3 : b3 = da ∨ h0.size ≤ b3 := zz1.elim Or.inl (fun q => Or.inr (by omega))
  replace K := K.trans K1 (allS (Or.inl (List.mem_of_getElem? (i := 0) rfl)) (allS (Or.inl (List.mem_of_getElem? (i := 1) rfl)) all0))
  refine own_go st1 ?_
  show own_WP p e below _ T1 (mkF m 6 #[.val (.ref o0), .val (.ref o1)] [])
  refine own_go (fun _ => XS.aloadN X1.here hx rfl (hb hby d5_6) rfl rfl) ?_
  show own_WP p e below _ T1 (mkF m 7 #[.val (.ref o0), .val (.ref o1)] [(.ref o1)])
  refine own_go (fun _ => XS.iconst X1.here hx rfl (hb hby d5_7)) ?_
  show own_WP p e below _ T1 (mkF m 8 #[.val (.ref o0), .val (.ref o1)] [(.int (0 : Int32)), (.ref o1)])
  refine own_go (fun _ => XS.aloadN X1.here hx rfl (hb hby d5_8) rfl rfl) ?_
  show own_WP p e below _ T1 (mkF m 9 #[.val (.ref o0), .val (.ref o1)] [(.ref o0), (.int (0 : Int32)), (.ref o1)])
  obtain ⟨T2, X2, e2, st2⟩ := getF X1 hx hZ hown (host := "") (Or.inl (hw _ (List.mem_of_getElem? (i := 10) rfl))) Via.refl (rfl : T1.heap = T1.heap) F_o0_data (g := (mkF m 9 #[.val (.ref o0), .val (.ref o1)] [(.ref o0), (.int (0 : Int32)), (.ref o1)])) rfl rfl (hb hby d5_9)
  refine own_go st2 ?_
  show own_WP p e below _ T2 (mkF m 12 #[.val (.ref o0), .val (.ref o1)] [(.ref b3), (.int (0 : Int32)), (.ref o1)])
  refine own_go (fun _ => XS.aloadN X2.here hx rfl (hb hby d5_12) rfl rfl) ?_
  show own_WP p e below _ T2 (mkF m 13 #[.val (.ref o0), .val (.ref o1)] [(.ref o0), (.ref b3), (.int (0 : Int32)), (.ref o1)])
  obtain ⟨T3, X3, e3, st3⟩ := getF X2 hx hZ hown (host := "") (Or.inl (hw _ (List.mem_of_getElem? (i := 21) rfl))) Via.refl e2 F_o0_size (g := (mkF m 13 #[.val (.ref o0), .val (.ref o1)] [(.ref o0), (.ref b3), (.int (0 : Int32)), (.ref o1)])) rfl rfl (hb hby d5_13)
  refine own_go st3 ?_
  show own_WP p e below _ T3 (mkF m 16 #[.val (.ref o0), .val (.ref o1)] [(.int (rr1.1)), (.ref b3), (.int (0 : Int32)), (.ref o1)])
  refine own_go (fun _ => XS.aloadN X3.here hx rfl (hb hby d5_16) rfl rfl) ?_
  show own_WP p e below _ T3 (mkF m 17 #[.val (.ref o0), .val (.ref o1)] [(.ref o1), (.int (rr1.1)), (.ref b3), (.int (0 : Int32)), (.ref o1)])
  refine own_go (own_lenI X3 C e3 V_o1 (hb hby d5_17)) ?_
  show own_WP p e below _ T3 (mkF m 18 #[.val (.ref o0), .val (.ref o1)] [(.int (Int32.ofNat bs.length)), (.int (rr1.1)), (.ref b3), (.int (0 : Int32)), (.ref o1)])
  obtain ⟨u4, hg4, hv⟩ := own_bind hv
  obtain ⟨T4, h4, L4, X4, e4, N4, K4, V'4, st4⟩ := own_copy X3 C e3 (hw _ (List.mem_of_getElem? (i := 28) rfl)) (hw _ (List.mem_of_getElem? (i := 31) rfl)) (hw _ (List.mem_of_getElem? (i := 29) rfl)) (hw _ (List.mem_of_getElem? (i := 30) rfl)) rfl V_o1 V_b3 hg4 N (by omega) (pc := 18) (Ls := #[.val (.ref o0), .val (.ref o1)]) rfl (rest := []) (hb hby d5_18) (by decide) (W := 0) (Nat.le_of_ble_eq_true rfl) (by decide)
  refine own_go st4 ?_
  replace V_o1 := V_o1.keep K4 (ninS (own_ne (by omega)) nin0)
  replace E_o0 := E_o0.keep K4
  replace F_o0_data := F_o0_data.keep K4 (ninS (own_ne (by omega)) nin0)
  replace F_o0_size := F_o0_size.keep K4 (ninS (own_ne (by omega)) nin0)
  replace V_b3 := V'4
  clear V'4
  replace N := N4
  replace K := K.trans K4 (allS (m_b3.elim (fun q => Or.inl (by rw [q]; exact List.mem_of_getElem? (i := 1) rfl)) Or.inr) all0)
  show own_WP p e below _ T4 (mkF m 21 #[.val (.ref o0), .val (.ref o1)] [])
  refine own_go (fun _ => XS.aloadN X4.here hx rfl (hb hby d5_21) rfl rfl) ?_
  show own_WP p e below _ T4 (mkF m 22 #[.val (.ref o0), .val (.ref o1)] [(.ref o0)])
  refine own_go (fun _ => XS.dup X4.here hx rfl (hb hby d5_22) rfl rfl) ?_
  show own_WP p e below _ T4 (mkF m 23 #[.val (.ref o0), .val (.ref o1)] [(.ref o0), (.ref o0)])
  obtain ⟨T5, X5, e5, st5⟩ := getF X4 hx hZ hown (host := "") (Or.inl (hw _ (List.mem_of_getElem? (i := 21) rfl))) Via.refl e4 F_o0_size (g := (mkF m 23 #[.val (.ref o0), .val (.ref o1)] [(.ref o0), (.ref o0)])) rfl rfl (hb hby d5_23)
  refine own_go st5 ?_
  show own_WP p e below _ T5 (mkF m 26 #[.val (.ref o0), .val (.ref o1)] [(.int (rr1.1)), (.ref o0)])
  refine own_go (fun _ => XS.aloadN X5.here hx rfl (hb hby d5_26) rfl rfl) ?_
  show own_WP p e below _ T5 (mkF m 27 #[.val (.ref o0), .val (.ref o1)] [(.ref o1), (.int (rr1.1)), (.ref o0)])
  refine own_go (own_lenI X5 C e5 V_o1 (hb hby d5_27)) ?_
  show own_WP p e below _ T5 (mkF m 28 #[.val (.ref o0), .val (.ref o1)] [(.int (Int32.ofNat bs.length)), (.int (rr1.1)), (.ref o0)])
  refine own_go (fun _ => XS.iadd X5.here hx rfl (hb hby d5_28) rfl) ?_
  show own_WP p e below _ T5 (mkF m 29 #[.val (.ref o0), .val (.ref o1)] [(.int ((rr1.1) + (Int32.ofNat bs.length))), (.ref o0)])
  obtain ⟨T6, h6, X6, e6, W6, st6⟩ := putF X5 hx hZ hown (host := "") (Or.inl (hw _ (List.mem_of_getElem? (i := 21) rfl))) Via.refl e5 F_o0_size E_o0 (Or.inl (hw _ (List.mem_of_getElem? (i := 22) rfl))) (hw _ (List.mem_of_getElem? (i := 2) rfl)) (ty := .int) (by decide) rfl rfl (g := (mkF m 29 #[.val (.ref o0), .val (.ref o1)] [(.int ((rr1.1) + (Int32.ofNat bs.length))), (.ref o0)])) rfl rfl (hb hby d5_29)
  refine own_go st6 ?_
  replace V_o1 := V_o1.other W6 (own_ne (by omega))
  replace E_o0 := E_o0.wr W6
  replace F_o0_data := F_o0_data.other W6 (Or.inr (slot_ne (Or.inl (hw _ (List.mem_of_getElem? (i := 11) rfl))) (Or.inl (hw _ (List.mem_of_getElem? (i := 22) rfl))) (by decide) (t := (.array .byte)) (t' := .int) (by decide) (by decide)))
  replace F_o0_size := F_o0_size.same W6
  replace V_b3 := V_b3.other W6 (own_ne (by omega))
  replace K := K.wr W6 (Or.inl (List.mem_of_getElem? (i := 0) rfl))
  replace N := Fr.snoc X6 N (by omega)
  show own_WP p e below _ T6 (mkF m 32 #[.val (.ref o0), .val (.ref o1)] [])
  refine own_go (fun _ => XS.aloadN X6.here hx rfl (hb hby d5_32) rfl rfl) ?_
  show own_WP p e below _ T6 (mkF m 33 #[.val (.ref o0), .val (.ref o1)] [(.ref o0)])
  obtain rfl := Option.some.inj hv
  exact own_retA X6 C rfl (hb hby d5_33) (by rw [e6]; exact hP _ _ _ N K ⟨b3, m_b3, rfl, E_o0, F_o0_data, F_o0_size, V_b3⟩) (by decide) (by decide)
theorem ef5 (m : MethodId) (o0 : Nat) (o1 : Nat) : entryFrame m #[(.ref o0), (.ref o1)] 2 = (mkF m 0 #[.val (.ref o0), .val (.ref o1)] []) := by first | (simp [entryFrame, mkF, argsToLocals, Value.category]; done) | rfl
theorem pd5 : parseMethodDescriptor "([B)Lcom/example/objwire/objwire/ndr/NdrWriter;" = some ⟨[(.array .byte)], some (.object "com/example/objwire/objwire/ndr/NdrWriter")⟩ := by decide +kernel
theorem pn5 : plainFor (⟨"com/example/objwire/objwire/ndr/NdrWriter", "writeBytes", "([B)Lcom/example/objwire/objwire/ndr/NdrWriter;"⟩ : MethodName) = true := plainFor_of_name (by first | (simp [plainName, overriddenIn]; done) | decide +kernel)
theorem rm5 (l : Launch) (Z : State) (a0 : Array Value) (hw : ∀ d ∈ tables_1, d.before a0 Z = true) (n0 : Nat) (h0 : Heap) (Z0 : n0 ≤ h0.size) {o1 : Nat} {o0 : Nat} {da : Nat} {bs : List Int32} {vs : List Int32} {c_o0_size : Int32} (o_o1_o0 : o1 < o0) (o_o0_da : o0 < da) (g_o1 : n0 ≤ o1) (V_o1 : own_AI Z h0 o1 .byte bs) (E_o0 : Exa Z h0 o0 "com/example/objwire/objwire/ndr/NdrWriter") (F_o0_data : Fld Z h0 o0 "com/example/objwire/objwire/ndr/NdrWriter" "data" "[B" (.ref da)) (F_o0_size : Fld Z h0 o0 "com/example/objwire/objwire/ndr/NdrWriter" "size" "I" (.int c_o0_size)) (V_da : own_AI Z h0 da .byte vs)   (rr : Int32 × (List Int32)) (hf : f5_0 bs vs c_o0_size = some rr) :
    own_Met l Z (⟨"com/example/objwire/objwire/ndr/NdrWriter", "writeBytes", "([B)Lcom/example/objwire/objwire/ndr/NdrWriter;"⟩ : MethodName) prog_55_method_9_code 2 (some (.object "com/example/objwire/objwire/ndr/NdrWriter")) [] rmR5 #[(.ref o0), (.ref o1)] h0 (fun v h L => Fr n0 L ∧ Keep h0 h [o0, da] ∧ E5 Z h0 o1 o0 da bs vs rr v h) := by
  refine own_body pn5 ?_
  intro p e s m below meth c s₁ C X e0
  exact own_cast (ef5 m o0 o1) (b5_0 hw C Z0 rr (fun v h L a b c => ⟨a, b, c⟩) X e0 (Fr.nil n0) (Keep.refl h0 [o0, da]) o_o1_o0 o_o0_da g_o1 V_o1 E_o0 F_o0_data F_o0_size V_da hf)
theorem d9_0 : decode prog_55_method_11_code 0 = .ok (.aload_n 0, 1) := by decide +kernel
theorem d9_1 : decode prog_55_method_11_code 1 = .ok (.getfield 7, 3) := by decide +kernel
theorem d9_4 : decode prog_55_method_11_code 4 = .ok (.aload_n 0, 1) := by decide +kernel
theorem d9_5 : decode prog_55_method_11_code 5 = .ok (.getfield 13, 3) := by decide +kernel
theorem d9_8 : decode prog_55_method_11_code 8 = .ok (.invokestatic 47, 3) := by decide +kernel
theorem d9_11 : decode prog_55_method_11_code 11 = .ok (.areturn, 1) := by decide +kernel
def rmR9 : Room := { frames := 2, cells := 1, slots := 144, locals := 32 }
def E9 (Z : State) (h0 : Heap) (o0 : Nat) (da : Nat) (sz : Int32) (vs : List Int32) (rr : (List Int32)) (v : Option Value) (h : Heap) : Prop := ∃ res, h0.size ≤ res ∧ v = some (.ref res) ∧ own_AI Z h res .byte rr
def f9_0 (sz : Int32) (vs : List Int32) : Option ((List Int32)) := ((f57_0 vs sz).bind fun rr3 => (some rr3))
set_option maxRecDepth 65536 in
set_option maxHeartbeats 40000000 in
theorem b9_0 {p : Program} {l : Launch} {e : Env} {s : State} {m : MethodId} {args : Array Value} {below : List Frame} {meth : Method} {c : Code} {Z : State} {a0 : Array Value} {h0 : Heap} {n0 : Nat} {P : Option Value → Heap → List Loc → Prop} (hw : ∀ d ∈ tables_1, d.before a0 Z = true) (C : own_Ctx p s m meth c Z (⟨"com/example/objwire/objwire/ndr/NdrWriter", "toByteArray", "()[B"⟩ : MethodName) prog_55_method_11_code 1 (some (.array .byte))) (Z0 : n0 ≤ h0.size) {o0 : Nat} {da : Nat} {sz : Int32} {vs : List Int32} (rr : (List Int32)) (hP : ∀ v h L, Fr n0 L → Keep h0 h [] → E9 Z h0 o0 da sz vs rr v h → P v h L)
    {T : State} {locs : List Loc} {h : Heap} (X : Stand p l e rmR9 s m args below meth c T locs 0 0) (e0 : T.heap = h) (N : Fr n0 locs) (K : Keep h0 h []) (o_o0_da : o0 < da) (g_o0 : n0 ≤ o0) (E_o0 : Exa Z h o0 "com/example/objwire/objwire/ndr/NdrWriter") (F_o0_data : Fld Z h o0 "com/example/objwire/objwire/ndr/NdrWriter" "data" "[B" (.ref da)) (F_o0_size : Fld Z h o0 "com/example/objwire/objwire/ndr/NdrWriter" "size" "I" (.int sz)) (V_da : own_AI Z h da .byte vs) (hv : f9_0 sz vs = some rr) :
    own_WP p e below (own_Q s P rmR9.cells rmR9.slots) T (mkF m 0 #[.val (.ref o0)] []) := by
  obtain ⟨hx, hZ, hby, hml, hown, hnm, hret, hlk⟩ := id C
  replace hown : s.vm.findClass "com/example/objwire/objwire/ndr/NdrWriter" = some m.cls := hown
  unfold f9_0 at hv
  show own_WP p e below _ T (mkF m 0 #[.val (.ref o0)] [])
  refine own_go (fun _ => XS.aloadN X.here hx rfl (hb hby d9_0) rfl rfl) ?_
  show own_WP p e below _ T (mkF m 1 #[.val (.ref o0)] [(.ref o0)])
  obtain ⟨T1, X1, e1, st1⟩ := getF X hx hZ hown (host := "") (Or.inl (hw _ (List.mem_of_getElem? (i := 10) rfl))) Via.refl e0 F_o0_data (g := (mkF m 1 #[.val (.ref o0)] [(.ref o0)])) rfl rfl (hb hby d9_1)
  refine own_go st1 ?_
  show own_WP p e below _ T1 (mkF m 4 #[.val (.ref o0)] [(.ref da)])
  refine own_go (fun _ => XS.aloadN X1.here hx rfl (hb hby d9_4) rfl rfl) ?_
  show own_WP p e below _ T1 (mkF m 5 #[.val (.ref o0)] [(.ref o0), (.ref da)])
  obtain ⟨T2, X2, e2, st2⟩ := getF X1 hx hZ hown (host := "") (Or.inl (hw _ (List.mem_of_getElem? (i := 21) rfl))) Via.refl e1 F_o0_size (g := (mkF m 5 #[.val (.ref o0)] [(.ref o0), (.ref da)])) rfl rfl (hb hby d9_5)
  refine own_go st2 ?_
  show own_WP p e below _ T2 (mkF m 8 #[.val (.ref o0)] [(.int sz), (.ref da)])
  obtain ⟨rr3, hf3, hv⟩ := own_bind hv
  obtain ⟨T3, v3, L3, X3, ⟨N3, K3, Q3⟩, st3⟩ := own_callS X2 C (argsL := [(.ref da), (.int sz)]) (rm57 l Z a0 hw n0 h (by have q := K.1; omega) (by omega) V_da sz rr3 hf3) (hw _ (List.mem_of_getElem? (i := 52) rfl)) (hw _ (List.mem_of_getElem? (i := 53) rfl)) (hw _ (List.mem_of_getElem? (i := 54) rfl)) (hw _ (List.mem_of_getElem? (i := 55) rfl)) (by decide) e2 (W := 0) (pc := 8) (Ls := #[.val (.ref o0)]) rfl (lenOf pd57 rfl) (rest := []) (stk := [(.int sz), (.ref da)]) rfl (Nat.le_of_ble_eq_true rfl) (hb hby d9_8) (by decide) (by decide) (by decide) (by decide)
  replace N := Fr.app N N3
  have lt3 : da < h.size := V_da.lt
  replace E_o0 := E_o0.keep K3
  replace F_o0_data := F_o0_data.keep K3 nin0
  replace F_o0_size := F_o0_size.keep K3 nin0
  replace V_da := V_da.keep K3 nin0
  obtain ⟨b8, zz3, rfl, V_b8⟩ := Q3
  have o_da_b8 : da < b8 := by omega
  have z_b8 : h0.size ≤ b8 := by have q := K.1; omega
  replace K := K.trans K3 all0
  refine own_go st3 ?_
  show own_WP p e below _ T3 (mkF m 11 #[.val (.ref o0)] [(.ref b8)])
  obtain rfl := Option.some.inj hv
  exact own_retA X3 C rfl (hb hby d9_11) (hP _ _ _ N K ⟨b8, (by omega), rfl, V_b8⟩) (by decide) (by decide)
theorem ef9 (m : MethodId) (o0 : Nat) : entryFrame m #[(.ref o0)] 1 = (mkF m 0 #[.val (.ref o0)] []) := by first | (simp [entryFrame, mkF, argsToLocals, Value.category]; done) | rfl
theorem pd9 : parseMethodDescriptor "()[B" = some ⟨[], some (.array .byte)⟩ := by decide +kernel
theorem pn9 : plainFor (⟨"com/example/objwire/objwire/ndr/NdrWriter", "toByteArray", "()[B"⟩ : MethodName) = true := plainFor_of_name (by first | (simp [plainName, overriddenIn]; done) | decide +kernel)
theorem rm9 (l : Launch) (Z : State) (a0 : Array Value) (hw : ∀ d ∈ tables_1, d.before a0 Z = true) (n0 : Nat) (h0 : Heap) (Z0 : n0 ≤ h0.size) {o0 : Nat} {da : Nat} {sz : Int32} {vs : List Int32} (o_o0_da : o0 < da) (g_o0 : n0 ≤ o0) (E_o0 : Exa Z h0 o0 "com/example/objwire/objwire/ndr/NdrWriter") (F_o0_data : Fld Z h0 o0 "com/example/objwire/objwire/ndr/NdrWriter" "data" "[B" (.ref da)) (F_o0_size : Fld Z h0 o0 "com/example/objwire/objwire/ndr/NdrWriter" "size" "I" (.int sz)) (V_da : own_AI Z h0 da .byte vs)   (rr : (List Int32)) (hf : f9_0 sz vs = some rr) :
    own_Met l Z (⟨"com/example/objwire/objwire/ndr/NdrWriter", "toByteArray", "()[B"⟩ : MethodName) prog_55_method_11_code 1 (some (.array .byte)) [] rmR9 #[(.ref o0)] h0 (fun v h L => Fr n0 L ∧ Keep h0 h [] ∧ E9 Z h0 o0 da sz vs rr v h) := by
  refine own_body pn9 ?_
  intro p e s m below meth c s₁ C X e0
  exact own_cast (ef9 m o0) (b9_0 hw C Z0 rr (fun v h L a b c => ⟨a, b, c⟩) X e0 (Fr.nil n0) (Keep.refl h0 []) o_o0_da g_o0 E_o0 F_o0_data F_o0_size V_da hf)
theorem d12_0 : decode prog_55_method_2_code 0 = .ok (.aload_n 0, 1) := by decide +kernel
theorem d12_1 : decode prog_55_method_2_code 1 = .ok (.getfield 13, 3) := by decide +kernel
theorem d12_4 : decode prog_55_method_2_code 4 = .ok (.ireturn, 1) := by decide +kernel
def rmR12 : Room := { frames := 0, cells := 0, slots := 0, locals := 0 }
def E12 (Z : State) (h0 : Heap) (o0 : Nat) (da : Nat) (sz : Int32) (vs : List Int32) (rr : Int32) (v : Option Value) (h : Heap) : Prop := v = some (.int rr)
def f12_0 (sz : Int32) : Option (Int32) := (some sz)
set_option maxRecDepth 65536 in
set_option maxHeartbeats 40000000 in
theorem b12_0 {p : Program} {l : Launch} {e : Env} {s : State} {m : MethodId} {args : Array Value} {below : List Frame} {meth : Method} {c : Code} {Z : State} {a0 : Array Value} {h0 : Heap} {n0 : Nat} {P : Option Value → Heap → List Loc → Prop} (hw : ∀ d ∈ tables_1, d.before a0 Z = true) (C : own_Ctx p s m meth c Z (⟨"com/example/objwire/objwire/ndr/NdrWriter", "size", "()I"⟩ : MethodName) prog_55_method_2_code 1 (some .int)) (Z0 : n0 ≤ h0.size) {o0 : Nat} {da : Nat} {sz : Int32} {vs : List Int32} (rr : Int32) (hP : ∀ v h L, Fr n0 L → Keep h0 h [] → E12 Z h0 o0 da sz vs rr v h → P v h L)
    {T : State} {locs : List Loc} {h : Heap} (X : Stand p l e rmR12 s m args below meth c T locs 0 0) (e0 : T.heap = h) (N : Fr n0 locs) (K : Keep h0 h []) (o_o0_da : o0 < da) (g_o0 : n0 ≤ o0) (E_o0 : Exa Z h o0 "com/example/objwire/objwire/ndr/NdrWriter") (F_o0_data : Fld Z h o0 "com/example/objwire/objwire/ndr/NdrWriter" "data" "[B" (.ref da)) (F_o0_size : Fld Z h o0 "com/example/objwire/objwire/ndr/NdrWriter" "size" "I" (.int sz)) (V_da : own_AI Z h da .byte vs) (hv : f12_0 sz = some rr) :
    own_WP p e below (own_Q s P rmR12.cells rmR12.slots) T (mkF m 0 #[.val (.ref o0)] []) := by
  obtain ⟨hx, hZ, hby, hml, hown, hnm, hret, hlk⟩ := id C
  replace hown : s.vm.findClass "com/example/objwire/objwire/ndr/NdrWriter" = some m.cls := hown
  unfold f12_0 at hv
  show own_WP p e below _ T (mkF m 0 #[.val (.ref o0)] [])
  refine own_go (fun _ => XS.aloadN X.here hx rfl (hb hby d12_0) rfl rfl) ?_
  show own_WP p e below _ T (mkF m 1 #[.val (.ref o0)] [(.ref o0)])
  obtain ⟨T1, X1, e1, st1⟩ := getF X hx hZ hown (host := "") (Or.inl (hw _ (List.mem_of_getElem? (i := 21) rfl))) Via.refl e0 F_o0_size (g := (mkF m 1 #[.val (.ref o0)] [(.ref o0)])) rfl rfl (hb hby d12_1)
  refine own_go st1 ?_
  show own_WP p e below _ T1 (mkF m 4 #[.val (.ref o0)] [(.int sz)])
  obtain rfl := Option.some.inj hv
  exact own_retI X1 C (hb hby d12_4) (by rw [e1]; exact hP _ _ _ N K rfl) (by decide) (by decide)
theorem ef12 (m : MethodId) (o0 : Nat) : entryFrame m #[(.ref o0)] 1 = (mkF m 0 #[.val (.ref o0)] []) := by first | (simp [entryFrame, mkF, argsToLocals, Value.category]; done) | rfl
theorem pd12 : parseMethodDescriptor "()I" = some ⟨[], some .int⟩ := by decide +kernel
theorem pn12 : plainFor (⟨"com/example/objwire/objwire/ndr/NdrWriter", "size", "()I"⟩ : MethodName) = true := plainFor_of_name (by first | (simp [plainName, overriddenIn]; done) | decide +kernel)
theorem rm12 (l : Launch) (Z : State) (a0 : Array Value) (hw : ∀ d ∈ tables_1, d.before a0 Z = true) (n0 : Nat) (h0 : Heap) (Z0 : n0 ≤ h0.size) {o0 : Nat} {da : Nat} {sz : Int32} {vs : List Int32} (o_o0_da : o0 < da) (g_o0 : n0 ≤ o0) (E_o0 : Exa Z h0 o0 "com/example/objwire/objwire/ndr/NdrWriter") (F_o0_data : Fld Z h0 o0 "com/example/objwire/objwire/ndr/NdrWriter" "data" "[B" (.ref da)) (F_o0_size : Fld Z h0 o0 "com/example/objwire/objwire/ndr/NdrWriter" "size" "I" (.int sz)) (V_da : own_AI Z h0 da .byte vs)   (rr : Int32) (hf : f12_0 sz = some rr) :
    own_Met l Z (⟨"com/example/objwire/objwire/ndr/NdrWriter", "size", "()I"⟩ : MethodName) prog_55_method_2_code 1 (some .int) [] rmR12 #[(.ref o0)] h0 (fun v h L => Fr n0 L ∧ Keep h0 h [] ∧ E12 Z h0 o0 da sz vs rr v h) := by
  refine own_body pn12 ?_
  intro p e s m below meth c s₁ C X e0
  exact own_cast (ef12 m o0) (b12_0 hw C Z0 rr (fun v h L a b c => ⟨a, b, c⟩) X e0 (Fr.nil n0) (Keep.refl h0 []) o_o0_da g_o0 E_o0 F_o0_data F_o0_size V_da hf)
theorem d13_0 : decode method_2_code 0 = .ok (.iload_n 2, 1) := by decide +kernel
theorem d13_1 : decode method_2_code 1 = .ok (.iload_n 3, 1) := by decide +kernel
theorem d13_2 : decode method_2_code 2 = .ok (.if_icmp .ge 11, 3) := by decide +kernel
theorem d13_5 : decode method_2_code 5 = .ok (.aload_n 0, 1) := by decide +kernel
theorem d13_6 : decode method_2_code 6 = .ok (.iload_n 1, 1) := by decide +kernel
theorem d13_7 : decode method_2_code 7 = .ok (.iload_n 2, 1) := by decide +kernel
theorem d13_8 : decode method_2_code 8 = .ok (.iadd, 1) := by decide +kernel
theorem d13_9 : decode method_2_code 9 = .ok (.baload, 1) := by decide +kernel
theorem d13_10 : decode method_2_code 10 = .ok (.ifCond .ne 7, 3) := by decide +kernel
theorem d13_13 : decode method_2_code 13 = .ok (.iconst 1, 1) := by decide +kernel
theorem d13_14 : decode method_2_code 14 = .ok (.goto 4, 3) := by decide +kernel
theorem d13_17 : decode method_2_code 17 = .ok (.iconst 0, 1) := by decide +kernel
theorem d13_18 : decode method_2_code 18 = .ok (.ireturn, 1) := by decide +kernel
def rmR13 : Room := { frames := 0, cells := 0, slots := 0, locals := 0 }
def E13 (Z : State) (h0 : Heap) (o0 : Nat) (vs : List Int32) (rr : Int32) (v : Option Value) (h : Heap) : Prop := v = some (.int rr)
def f13_0 (vs : List Int32) (x1 : Int32) (x2 : Int32) (x3 : Int32) : Option (Int32) := (if x2 < x3 then ((own_get vs (x1 + x2)).bind fun w1 => (if w1 = (0 : Int32) then (some (1 : Int32)) else (some (0 : Int32)))) else (some (1 : Int32)))
set_option maxRecDepth 65536 in
set_option maxHeartbeats 40000000 in
theorem b13_0 {p : Program} {l : Launch} {e : Env} {s : State} {m : MethodId} {args : Array Value} {below : List Frame} {meth : Method} {c : Code} {Z : State} {a0 : Array Value} {h0 : Heap} {n0 : Nat} {P : Option Value → Heap → List Loc → Prop} (hw : ∀ d ∈ tables_1, d.before a0 Z = true) (C : own_Ctx p s m meth c Z (⟨"com/example/objwire/objwire/ndr/NdrWriterToByteArrayPinLaw", "padZero", "([BIII)Z"⟩ : MethodName) method_2_code 4 (some .boolean)) (Z0 : n0 ≤ h0.size) {o0 : Nat} {vs : List Int32} (rr : Int32) (hP : ∀ v h L, Fr n0 L → Keep h0 h [] → E13 Z h0 o0 vs rr v h → P v h L)
    {T : State} {locs : List Loc} {h : Heap} (X : Stand p l e rmR13 s m args below meth c T locs 0 0) (e0 : T.heap = h) (N : Fr n0 locs) (K : Keep h0 h []) (g_o0 : n0 ≤ o0) (V_o0 : own_AI Z h o0 .byte vs) (x1 : Int32) (x2 : Int32) (x3 : Int32) (hv : f13_0 vs x1 x2 x3 = some rr) :
    own_WP p e below (own_Q s P rmR13.cells rmR13.slots) T (mkF m 0 #[.val (.ref o0), .val (.int x1), .val (.int x2), .val (.int x3)] []) := by
  obtain ⟨hx, hZ, hby, hml, hown, hnm, hret, hlk⟩ := id C
  replace hown : s.vm.findClass "com/example/objwire/objwire/ndr/NdrWriterToByteArrayPinLaw" = some m.cls := hown
  unfold f13_0 at hv
  show own_WP p e below _ T (mkF m 0 #[.val (.ref o0), .val (.int x1), .val (.int x2), .val (.int x3)] [])
  refine own_go (fun _ => XS.iloadN X.here hx rfl (hb hby d13_0) rfl) ?_
  show own_WP p e below _ T (mkF m 1 #[.val (.ref o0), .val (.int x1), .val (.int x2), .val (.int x3)] [(.int x2)])
  refine own_go (fun _ => XS.iloadN X.here hx rfl (hb hby d13_1) rfl) ?_
  show own_WP p e below _ T (mkF m 2 #[.val (.ref o0), .val (.int x1), .val (.int x2), .val (.int x3)] [(.int x3), (.int x2)])
  by_cases h2 : x2 < x3
  · replace hv := (if_pos h2).symm.trans hv
    refine own_go (fun _ => XS.icmpNo X.here hx rfl (hb hby d13_2) rfl (XT.ii_ge_f h2)) ?_
    show own_WP p e below _ T (mkF m 5 #[.val (.ref o0), .val (.int x1), .val (.int x2), .val (.int x3)] [])
    refine own_go (fun _ => XS.aloadN X.here hx rfl (hb hby d13_5) rfl rfl) ?_
    show own_WP p e below _ T (mkF m 6 #[.val (.ref o0), .val (.int x1), .val (.int x2), .val (.int x3)] [(.ref o0)])
    refine own_go (fun _ => XS.iloadN X.here hx rfl (hb hby d13_6) rfl) ?_
    show own_WP p e below _ T (mkF m 7 #[.val (.ref o0), .val (.int x1), .val (.int x2), .val (.int x3)] [(.int x1), (.ref o0)])
    refine own_go (fun _ => XS.iloadN X.here hx rfl (hb hby d13_7) rfl) ?_
    show own_WP p e below _ T (mkF m 8 #[.val (.ref o0), .val (.int x1), .val (.int x2), .val (.int x3)] [(.int x2), (.int x1), (.ref o0)])
    refine own_go (fun _ => XS.iadd X.here hx rfl (hb hby d13_8) rfl) ?_
    show own_WP p e below _ T (mkF m 9 #[.val (.ref o0), .val (.int x1), .val (.int x2), .val (.int x3)] [(.int (x1 + x2)), (.ref o0)])
    obtain ⟨w1, hg1, hv⟩ := own_bind hv
    refine own_go (own_baload X C e0 V_o0 hg1 (hb hby d13_9)) ?_
    show own_WP p e below _ T (mkF m 10 #[.val (.ref o0), .val (.int x1), .val (.int x2), .val (.int x3)] [(.int w1)])
    by_cases h10 : w1 = (0 : Int32)
    · replace hv := (if_pos h10).symm.trans hv
      refine own_go (fun _ => XS.ifNo X.here hx rfl (hb hby d13_10) rfl (XT.i0_ne_f h10)) ?_
      show own_WP p e below _ T (mkF m 13 #[.val (.ref o0), .val (.int x1), .val (.int x2), .val (.int x3)] [])
      refine own_go (fun _ => XS.iconst X.here hx rfl (hb hby d13_13)) ?_
      show own_WP p e below _ T (mkF m 14 #[.val (.ref o0), .val (.int x1), .val (.int x2), .val (.int x3)] [(.int (1 : Int32))])
      refine own_go (fun _ => XS.goto X.here hx rfl (pc0 := 14) (pc' := 18) rfl (hb hby d13_14) (by decide) (by decide)) ?_
      show own_WP p e below _ T (mkF m 18 #[.val (.ref o0), .val (.int x1), .val (.int x2), .val (.int x3)] [(.int (1 : Int32))])
      obtain rfl := Option.some.inj hv
      exact own_retN X C (by simp) (hb hby d13_18) (by rw [e0]; exact hP _ _ _ N K rfl) (by decide) (by decide)
    · replace hv := (if_neg h10).symm.trans hv
      refine own_go (fun _ => XS.ifYes X.here hx rfl (pc0 := 10) (pc' := 17) rfl (hb hby d13_10) rfl (XT.i0_ne_t h10) (by decide) (by decide)) ?_
      show own_WP p e below _ T (mkF m 17 #[.val (.ref o0), .val (.int x1), .val (.int x2), .val (.int x3)] [])
      refine own_go (fun _ => XS.iconst X.here hx rfl (hb hby d13_17)) ?_
      show own_WP p e below _ T (mkF m 18 #[.val (.ref o0), .val (.int x1), .val (.int x2), .val (.int x3)] [(.int (0 : Int32))])
      obtain rfl := Option.some.inj hv
      exact own_retN X C (by simp) (hb hby d13_18) (by rw [e0]; exact hP _ _ _ N K rfl) (by decide) (by decide)
  · replace hv := (if_neg h2).symm.trans hv
    refine own_go (fun _ => XS.icmpYes X.here hx rfl (pc0 := 2) (pc' := 13) rfl (hb hby d13_2) rfl (XT.ii_ge_t h2) (by decide) (by decide)) ?_
    show own_WP p e below _ T (mkF m 13 #[.val (.ref o0), .val (.int x1), .val (.int x2), .val (.int x3)] [])
    refine own_go (fun _ => XS.iconst X.here hx rfl (hb hby d13_13)) ?_
    show own_WP p e below _ T (mkF m 14 #[.val (.ref o0), .val (.int x1), .val (.int x2), .val (.int x3)] [(.int (1 : Int32))])
    refine own_go (fun _ => XS.goto X.here hx rfl (pc0 := 14) (pc' := 18) rfl (hb hby d13_14) (by decide) (by decide)) ?_
    show own_WP p e below _ T (mkF m 18 #[.val (.ref o0), .val (.int x1), .val (.int x2), .val (.int x3)] [(.int (1 : Int32))])
    obtain rfl := Option.some.inj hv
    exact own_retN X C (by simp) (hb hby d13_18) (by rw [e0]; exact hP _ _ _ N K rfl) (by decide) (by decide)
theorem ef13 (m : MethodId) (o0 : Nat) (x1 : Int32) (x2 : Int32) (x3 : Int32) : entryFrame m #[(.ref o0), (.int x1), (.int x2), (.int x3)] 4 = (mkF m 0 #[.val (.ref o0), .val (.int x1), .val (.int x2), .val (.int x3)] []) := by first | (simp [entryFrame, mkF, argsToLocals, Value.category]; done) | rfl
theorem pd13 : parseMethodDescriptor "([BIII)Z" = some ⟨[(.array .byte), .int, .int, .int], some .boolean⟩ := by decide +kernel
theorem pn13 : plainFor (⟨"com/example/objwire/objwire/ndr/NdrWriterToByteArrayPinLaw", "padZero", "([BIII)Z"⟩ : MethodName) = true := plainFor_of_name (by first | (simp [plainName, overriddenIn]; done) | decide +kernel)
theorem rm13 (l : Launch) (Z : State) (a0 : Array Value) (hw : ∀ d ∈ tables_1, d.before a0 Z = true) (n0 : Nat) (h0 : Heap) (Z0 : n0 ≤ h0.size) {o0 : Nat} {vs : List Int32}  (g_o0 : n0 ≤ o0) (V_o0 : own_AI Z h0 o0 .byte vs) (x1 : Int32) (x2 : Int32) (x3 : Int32)  (rr : Int32) (hf : f13_0 vs x1 x2 x3 = some rr) :
    own_Met l Z (⟨"com/example/objwire/objwire/ndr/NdrWriterToByteArrayPinLaw", "padZero", "([BIII)Z"⟩ : MethodName) method_2_code 4 (some .boolean) [] rmR13 #[(.ref o0), (.int x1), (.int x2), (.int x3)] h0 (fun v h L => Fr n0 L ∧ Keep h0 h [] ∧ E13 Z h0 o0 vs rr v h) := by
  refine own_body pn13 ?_
  intro p e s m below meth c s₁ C X e0
  exact own_cast (ef13 m o0 x1 x2 x3) (b13_0 hw C Z0 rr (fun v h L a b c => ⟨a, b, c⟩) X e0 (Fr.nil n0) (Keep.refl h0 []) g_o0 V_o0 x1 x2 x3 hf)
def E0 (Z : State) (h0 : Heap)   (rr : Int32) (v : Option Value) (h : Heap) : Prop := v = some (.int rr)
def f0_511  : Option (Int32) := (some (0 : Int32))
set_option maxRecDepth 65536 in
set_option maxHeartbeats 40000000 in
theorem b0_511 {p : Program} {l : Launch} {e : Env} {s : State} {m : MethodId} {args : Array Value} {below : List Frame} {meth : Method} {c : Code} {Z : State} {a0 : Array Value} {h0 : Heap} {n0 : Nat} {P : Option Value → Heap → List Loc → Prop} (hw : ∀ d ∈ tables_1, d.before a0 Z = true) (C : own_Ctx p s m meth c Z x code maxLocals ret) (Z0 : n0 ≤ h0.size)   (rr : Int32) (hP : ∀ v h L, Fr n0 L → Keep h0 h [] → E0 Z h0  rr v h → P v h L)
    {T : State} {locs : List Loc} {h : Heap} {b20 : Nat} {b39 : Nat} {b81 : Nat} {b121 : Nat} {b465 : Nat} {v_b20 : List Int32} {c_b39_size : Int32} {v_b81 : List Int32} {v_b121 : List Int32} {v_b465 : List Int32} (X : Stand p l e room_1 s m args below meth c T locs 10 1761) (e0 : T.heap = h) (N : Fr n0 locs) (K : Keep h0 h []) (o_b20_b39 : b20 < b39) (o_b39_b81 : b39 < b81) (o_b81_b121 : b81 < b121) (o_b121_b465 : b121 < b465) (g_b20 : n0 ≤ b20) (z_b20 : h0.size ≤ b20) (V_b20 : own_AI Z h b20 .byte v_b20) (E_b39 : Exa Z h b39 "com/example/objwire/objwire/ndr/NdrWriter") (F_b39_data : Fld Z h b39 "com/example/objwire/objwire/ndr/NdrWriter" "data" "[B" (.ref b81)) (F_b39_size : Fld Z h b39 "com/example/objwire/objwire/ndr/NdrWriter" "size" "I" (.int c_b39_size)) (V_b81 : own_AI Z h b81 .byte v_b81) (V_b121 : own_AI Z h b121 .byte v_b121) (V_b465 : own_AI Z h b465 .byte v_b465) (x0 : Int32) (x1 : Int32) (x2 : Int32) (x3 : Int32) (x4 : Int32) (x5 : Int32) (x6 : Int32) (s7 : Slot) (hs7 : One s7) (s8 : Slot) (hs8 : One s8) (x9 : Int32) (x10 : Int32) (x11 : Int32) (x12 : Int32) (s13 : Slot) (hs13 : One s13) (x14 : Int32) (s15 : Slot) (hs15 : One s15) (hv : f0_511 = some rr) :
    own_WP p e below (own_Q s P room_1.cells room_1.slots) T (mkF m 511 #[.val (.int x0), .val (.int x1), .val (.int x2), .val (.int x3), .val (.int x4), .val (.int x5), .val (.int x6), s7, s8, .val (.int x9), .val (.int x10), .val (.int x11), .val (.int x12), s13, .val (.int x14), s15] []) := by
  obtain ⟨hx, hZ, hby, hml, hown, hnm, hret, hlk⟩ := id C
  replace hown : s.vm.findClass "com/example/objwire/objwire/ndr/NdrWriterToByteArrayPinLaw" = some m.cls := hown
  unfold f0_511 at hv
  show own_WP p e below _ T (mkF m 511 #[.val (.int x0), .val (.int x1), .val (.int x2), .val (.int x3), .val (.int x4), .val (.int x5), .val (.int x6), s7, s8, .val (.int x9), .val (.int x10), .val (.int x11), .val (.int x12), s13, .val (.int x14), s15] [])
  refine own_go (fun _ => XS.iconst X.here hx rfl (hb hby at_511)) ?_
  show own_WP p e below _ T (mkF m 512 #[.val (.int x0), .val (.int x1), .val (.int x2), .val (.int x3), .val (.int x4), .val (.int x5), .val (.int x6), s7, s8, .val (.int x9), .val (.int x10), .val (.int x11), .val (.int x12), s13, .val (.int x14), s15] [(.int (0 : Int32))])
  refine own_go (fun _ => XS.istore X.here hx rfl (hb hby at_512) rfl (l' := #[.val (.int x0), .val (.int x1), .val (.int x2), .val (.int x3), .val (.int x4), .val (.int x5), .val (.int x6), s7, s8, .val (.int x9), .val (.int x10), .val (.int x11), .val (.int x12), s13, .val (.int (0 : Int32)), s15]) rfl) ?_
  show own_WP p e below _ T (mkF m 514 #[.val (.int x0), .val (.int x1), .val (.int x2), .val (.int x3), .val (.int x4), .val (.int x5), .val (.int x6), s7, s8, .val (.int x9), .val (.int x10), .val (.int x11), .val (.int x12), s13, .val (.int (0 : Int32)), s15] [])
  refine own_go (fun _ => XS.iload X.here hx rfl (hb hby at_514) rfl) ?_
  show own_WP p e below _ T (mkF m 516 #[.val (.int x0), .val (.int x1), .val (.int x2), .val (.int x3), .val (.int x4), .val (.int x5), .val (.int x6), s7, s8, .val (.int x9), .val (.int x10), .val (.int x11), .val (.int x12), s13, .val (.int (0 : Int32)), s15] [(.int (0 : Int32))])
  obtain rfl := Option.some.inj hv
  exact own_retN X C (by simp) (hb hby at_516) (by rw [e0]; exact hP _ _ _ N K rfl) (by decide) (by decide)
def f0_433 (c_b39_size : Int32) (v_b81 : List Int32) (v_b121 : List Int32) (x0 : Int32) (x2 : Int32) (x10 : Int32) (x12 : Int32) (t0 : Int32) : Option (Int32) := ((own_get v_b121 (0 : Int32)).bind fun w15 => ((own_set v_b121 (0 : Int32) (((w15 + (1 : Int32)).toInt8.toInt32).toInt8.toInt32)).bind fun u16 => ((own_get u16 (x10 + (1 : Int32))).bind fun w17 => ((own_set u16 (x10 + (1 : Int32)) (((w17 + (1 : Int32)).toInt8.toInt32).toInt8.toInt32)).bind fun u18 => ((f9_0 c_b39_size v_b81).bind fun rr19 => (if t0 = (0 : Int32) then f0_511 else (if (Int32.ofNat rr19.length) = x12 then ((own_get rr19 (0 : Int32)).bind fun w20 => (if w20 = (x0.toInt8.toInt32) then ((own_get rr19 (x10 + (1 : Int32))).bind fun w21 => (if w21 = ((XT.ushr x2 (8 : Int32)).toInt8.toInt32) then (some (1 : Int32)) else f0_511)) else f0_511)) else f0_511)))))))
set_option maxRecDepth 65536 in
set_option maxHeartbeats 40000000 in
theorem b0_433 {p : Program} {l : Launch} {e : Env} {s : State} {m : MethodId} {args : Array Value} {below : List Frame} {meth : Method} {c : Code} {Z : State} {a0 : Array Value} {h0 : Heap} {n0 : Nat} {P : Option Value → Heap → List Loc → Prop} (hw : ∀ d ∈ tables_1, d.before a0 Z = true) (C : own_Ctx p s m meth c Z x code maxLocals ret) (Z0 : n0 ≤ h0.size)   (rr : Int32) (hP : ∀ v h L, Fr n0 L → Keep h0 h [] → E0 Z h0  rr v h → P v h L)
    {T : State} {locs : List Loc} {h : Heap} {b20 : Nat} {b39 : Nat} {b81 : Nat} {b121 : Nat} {v_b20 : List Int32} {c_b39_size : Int32} {v_b81 : List Int32} {v_b121 : List Int32} (X : Stand p l e room_1 s m args below meth c T locs 9 1617) (e0 : T.heap = h) (N : Fr n0 locs) (K : Keep h0 h []) (o_b20_b39 : b20 < b39) (o_b39_b81 : b39 < b81) (o_b81_b121 : b81 < b121) (g_b20 : n0 ≤ b20) (z_b20 : h0.size ≤ b20) (V_b20 : own_AI Z h b20 .byte v_b20) (E_b39 : Exa Z h b39 "com/example/objwire/objwire/ndr/NdrWriter") (F_b39_data : Fld Z h b39 "com/example/objwire/objwire/ndr/NdrWriter" "data" "[B" (.ref b81)) (F_b39_size : Fld Z h b39 "com/example/objwire/objwire/ndr/NdrWriter" "size" "I" (.int c_b39_size)) (V_b81 : own_AI Z h b81 .byte v_b81) (V_b121 : own_AI Z h b121 .byte v_b121) (x0 : Int32) (x1 : Int32) (x2 : Int32) (x3 : Int32) (x4 : Int32) (x5 : Int32) (x6 : Int32) (s7 : Slot) (hs7 : One s7) (x9 : Int32) (x10 : Int32) (x11 : Int32) (x12 : Int32) (x14 : Int32) (t0 : Int32) (hv : f0_433 c_b39_size v_b81 v_b121 x0 x2 x10 x12 t0 = some rr) :
    own_WP p e below (own_Q s P room_1.cells room_1.slots) T (mkF m 433 #[.val (.int x0), .val (.int x1), .val (.int x2), .val (.int x3), .val (.int x4), .val (.int x5), .val (.int x6), s7, .val (.ref b39), .val (.int x9), .val (.int x10), .val (.int x11), .val (.int x12), .val (.ref b121), .val (.int x14), .unset] [(.int t0)]) := by
  obtain ⟨hx, hZ, hby, hml, hown, hnm, hret, hlk⟩ := id C
  replace hown : s.vm.findClass "com/example/objwire/objwire/ndr/NdrWriterToByteArrayPinLaw" = some m.cls := hown
  unfold f0_433 at hv
  show own_WP p e below _ T (mkF m 433 #[.val (.int x0), .val (.int x1), .val (.int x2), .val (.int x3), .val (.int x4), .val (.int x5), .val (.int x6), s7, .val (.ref b39), .val (.int x9), .val (.int x10), .val (.int x11), .val (.int x12), .val (.ref b121), .val (.int x14), .unset] [(.int t0)])
  refine own_go (fun _ => XS.istore X.here hx rfl (hb hby at_433) rfl (l' := #[.val (.int x0), .val (.int x1), .val (.int x2), .val (.int x3), .val (.int x4), .val (.int x5), .val (.int x6), s7, .val (.ref b39), .val (.int x9), .val (.int x10), .val (.int x11), .val (.int x12), .val (.ref b121), .val (.int t0), .unset]) rfl) ?_
  show own_WP p e below _ T (mkF m 435 #[.val (.int x0), .val (.int x1), .val (.int x2), .val (.int x3), .val (.int x4), .val (.int x5), .val (.int x6), s7, .val (.ref b39), .val (.int x9), .val (.int x10), .val (.int x11), .val (.int x12), .val (.ref b121), .val (.int t0), .unset] [])
  refine own_go (fun _ => XS.aload X.here hx rfl (hb hby at_435) rfl rfl) ?_
  show own_WP p e below _ T (mkF m 437 #[.val (.int x0), .val (.int x1), .val (.int x2), .val (.int x3), .val (.int x4), .val (.int x5), .val (.int x6), s7, .val (.ref b39), .val (.int x9), .val (.int x10), .val (.int x11), .val (.int x12), .val (.ref b121), .val (.int t0), .unset] [(.ref b121)])
  refine own_go (fun _ => XS.iconst X.here hx rfl (hb hby at_437)) ?_
  show own_WP p e below _ T (mkF m 438 #[.val (.int x0), .val (.int x1), .val (.int x2), .val (.int x3), .val (.int x4), .val (.int x5), .val (.int x6), s7, .val (.ref b39), .val (.int x9), .val (.int x10), .val (.int x11), .val (.int x12), .val (.ref b121), .val (.int t0), .unset] [(.int (0 : Int32)), (.ref b121)])
  refine own_go (fun _ => XS.aload X.here hx rfl (hb hby at_438) rfl rfl) ?_
  show own_WP p e below _ T (mkF m 440 #[.val (.int x0), .val (.int x1), .val (.int x2), .val (.int x3), .val (.int x4), .val (.int x5), .val (.int x6), s7, .val (.ref b39), .val (.int x9), .val (.int x10), .val (.int x11), .val (.int x12), .val (.ref b121), .val (.int t0), .unset] [(.ref b121), (.int (0 : Int32)), (.ref b121)])
  refine own_go (fun _ => XS.iconst X.here hx rfl (hb hby at_440)) ?_
  show own_WP p e below _ T (mkF m 441 #[.val (.int x0), .val (.int x1), .val (.int x2), .val (.int x3), .val (.int x4), .val (.int x5), .val (.int x6), s7, .val (.ref b39), .val (.int x9), .val (.int x10), .val (.int x11), .val (.int x12), .val (.ref b121), .val (.int t0), .unset] [(.int (0 : Int32)), (.ref b121), (.int (0 : Int32)), (.ref b121)])
  obtain ⟨w15, hg15, hv⟩ := own_bind hv
  refine own_go (own_baload X C e0 V_b121 hg15 (hb hby at_441)) ?_
  show own_WP p e below _ T (mkF m 442 #[.val (.int x0), .val (.int x1), .val (.int x2), .val (.int x3), .val (.int x4), .val (.int x5), .val (.int x6), s7, .val (.ref b39), .val (.int x9), .val (.int x10), .val (.int x11), .val (.int x12), .val (.ref b121), .val (.int t0), .unset] [(.int w15), (.int (0 : Int32)), (.ref b121)])
  refine own_go (fun _ => XS.iconst X.here hx rfl (hb hby at_442)) ?_
  show own_WP p e below _ T (mkF m 443 #[.val (.int x0), .val (.int x1), .val (.int x2), .val (.int x3), .val (.int x4), .val (.int x5), .val (.int x6), s7, .val (.ref b39), .val (.int x9), .val (.int x10), .val (.int x11), .val (.int x12), .val (.ref b121), .val (.int t0), .unset] [(.int (1 : Int32)), (.int w15), (.int (0 : Int32)), (.ref b121)])
  refine own_go (fun _ => XS.iadd X.here hx rfl (hb hby at_443) rfl) ?_
  show own_WP p e below _ T (mkF m 444 #[.val (.int x0), .val (.int x1), .val (.int x2), .val (.int x3), .val (.int x4), .val (.int x5), .val (.int x6), s7, .val (.ref b39), .val (.int x9), .val (.int x10), .val (.int x11), .val (.int x12), .val (.ref b121), .val (.int t0), .unset] [(.int (w15 + (1 : Int32))), (.int (0 : Int32)), (.ref b121)])
  refine own_go (fun _ => XS.i2b X.here hx rfl (hb hby at_444) rfl) ?_
  show own_WP p e below _ T (mkF m 445 #[.val (.int x0), .val (.int x1), .val (.int x2), .val (.int x3), .val (.int x4), .val (.int x5), .val (.int x6), s7, .val (.ref b39), .val (.int x9), .val (.int x10), .val (.int x11), .val (.int x12), .val (.ref b121), .val (.int t0), .unset] [(.int ((w15 + (1 : Int32)).toInt8.toInt32)), (.int (0 : Int32)), (.ref b121)])
  obtain ⟨u16, hg16, hv⟩ := own_bind hv
  obtain ⟨T16, h16, X16, e16, W16, V'16, st16⟩ := own_bastore X C e0 V_b121 (j := (0 : Int32)) (x := ((w15 + (1 : Int32)).toInt8.toInt32)) hg16 (hb hby at_445)
  refine own_go st16 ?_
  replace V_b20 := V_b20.other W16 (own_ne (by omega))
  replace E_b39 := E_b39.wr W16
  replace F_b39_data := F_b39_data.other W16 (Or.inl (own_ne (by omega)))
  replace F_b39_size := F_b39_size.other W16 (Or.inl (own_ne (by omega)))
  replace V_b81 := V_b81.other W16 (own_ne (by omega))
  replace V_b121 := V'16
  clear V'16
  replace K := K.wr W16 (Or.inr (by omega))
  replace N := Fr.snoc X16 N (by omega)
  show own_WP p e below _ T16 (mkF m 446 #[.val (.int x0), .val (.int x1), .val (.int x2), .val (.int x3), .val (.int x4), .val (.int x5), .val (.int x6), s7, .val (.ref b39), .val (.int x9), .val (.int x10), .val (.int x11), .val (.int x12), .val (.ref b121), .val (.int t0), .unset] [])
  refine own_go (fun _ => XS.aload X16.here hx rfl (hb hby at_446) rfl rfl) ?_
  show own_WP p e below _ T16 (mkF m 448 #[.val (.int x0), .val (.int x1), .val (.int x2), .val (.int x3), .val (.int x4), .val (.int x5), .val (.int x6), s7, .val (.ref b39), .val (.int x9), .val (.int x10), .val (.int x11), .val (.int x12), .val (.ref b121), .val (.int t0), .unset] [(.ref b121)])
  refine own_go (fun _ => XS.iload X16.here hx rfl (hb hby at_448) rfl) ?_
  show own_WP p e below _ T16 (mkF m 450 #[.val (.int x0), .val (.int x1), .val (.int x2), .val (.int x3), .val (.int x4), .val (.int x5), .val (.int x6), s7, .val (.ref b39), .val (.int x9), .val (.int x10), .val (.int x11), .val (.int x12), .val (.ref b121), .val (.int t0), .unset] [(.int x10), (.ref b121)])
  refine own_go (fun _ => XS.iconst X16.here hx rfl (hb hby at_450)) ?_
  show own_WP p e below _ T16 (mkF m 451 #[.val (.int x0), .val (.int x1), .val (.int x2), .val (.int x3), .val (.int x4), .val (.int x5), .val (.int x6), s7, .val (.ref b39), .val (.int x9), .val (.int x10), .val (.int x11), .val (.int x12), .val (.ref b121), .val (.int t0), .unset] [(.int (1 : Int32)), (.int x10), (.ref b121)])
  refine own_go (fun _ => XS.iadd X16.here hx rfl (hb hby at_451) rfl) ?_
  show own_WP p e below _ T16 (mkF m 452 #[.val (.int x0), .val (.int x1), .val (.int x2), .val (.int x3), .val (.int x4), .val (.int x5), .val (.int x6), s7, .val (.ref b39), .val (.int x9), .val (.int x10), .val (.int x11), .val (.int x12), .val (.ref b121), .val (.int t0), .unset] [(.int (x10 + (1 : Int32))), (.ref b121)])
  refine own_go (fun _ => XS.aload X16.here hx rfl (hb hby at_452) rfl rfl) ?_
  show own_WP p e below _ T16 (mkF m 454 #[.val (.int x0), .val (.int x1), .val (.int x2), .val (.int x3), .val (.int x4), .val (.int x5), .val (.int x6), s7, .val (.ref b39), .val (.int x9), .val (.int x10), .val (.int x11), .val (.int x12), .val (.ref b121), .val (.int t0), .unset] [(.ref b121), (.int (x10 + (1 : Int32))), (.ref b121)])
  refine own_go (fun _ => XS.iload X16.here hx rfl (hb hby at_454) rfl) ?_
  show own_WP p e below _ T16 (mkF m 456 #[.val (.int x0), .val (.int x1), .val (.int x2), .val (.int x3), .val (.int x4), .val (.int x5), .val (.int x6), s7, .val (.ref b39), .val (.int x9), .val (.int x10), .val (.int x11), .val (.int x12), .val (.ref b121), .val (.int t0), .unset] [(.int x10), (.ref b121), (.int (x10 + (1 : Int32))), (.ref b121)])
  refine own_go (fun _ => XS.iconst X16.here hx rfl (hb hby at_456)) ?_
  show own_WP p e below _ T16 (mkF m 457 #[.val (.int x0), .val (.int x1), .val (.int x2), .val (.int x3), .val (.int x4), .val (.int x5), .val (.int x6), s7, .val (.ref b39), .val (.int x9), .val (.int x10), .val (.int x11), .val (.int x12), .val (.ref b121), .val (.int t0), .unset] [(.int (1 : Int32)), (.int x10), (.ref b121), (.int (x10 + (1 : Int32))), (.ref b121)])
  refine own_go (fun _ => XS.iadd X16.here hx rfl (hb hby at_457) rfl) ?_
  show own_WP p e below _ T16 (mkF m 458 #[.val (.int x0), .val (.int x1), .val (.int x2), .val (.int x3), .val (.int x4), .val (.int x5), .val (.int x6), s7, .val (.ref b39), .val (.int x9), .val (.int x10), .val (.int x11), .val (.int x12), .val (.ref b121), .val (.int t0), .unset] [(.int (x10 + (1 : Int32))), (.ref b121), (.int (x10 + (1 : Int32))), (.ref b121)])
  obtain ⟨w17, hg17, hv⟩ := own_bind hv
  refine own_go (own_baload X16 C e16 V_b121 hg17 (hb hby at_458)) ?_
  show own_WP p e below _ T16 (mkF m 459 #[.val (.int x0), .val (.int x1), .val (.int x2), .val (.int x3), .val (.int x4), .val (.int x5), .val (.int x6), s7, .val (.ref b39), .val (.int x9), .val (.int x10), .val (.int x11), .val (.int x12), .val (.ref b121), .val (.int t0), .unset] [(.int w17), (.int (x10 + (1 : Int32))), (.ref b121)])
  refine own_go (fun _ => XS.iconst X16.here hx rfl (hb hby at_459)) ?_
  show own_WP p e below _ T16 (mkF m 460 #[.val (.int x0), .val (.int x1), .val (.int x2), .val (.int x3), .val (.int x4), .val (.int x5), .val (.int x6), s7, .val (.ref b39), .val (.int x9), .val (.int x10), .val (.int x11), .val (.int x12), .val (.ref b121), .val (.int t0), .unset] [(.int (1 : Int32)), (.int w17), (.int (x10 + (1 : Int32))), (.ref b121)])
  refine own_go (fun _ => XS.iadd X16.here hx rfl (hb hby at_460) rfl) ?_
  show own_WP p e below _ T16 (mkF m 461 #[.val (.int x0), .val (.int x1), .val (.int x2), .val (.int x3), .val (.int x4), .val (.int x5), .val (.int x6), s7, .val (.ref b39), .val (.int x9), .val (.int x10), .val (.int x11), .val (.int x12), .val (.ref b121), .val (.int t0), .unset] [(.int (w17 + (1 : Int32))), (.int (x10 + (1 : Int32))), (.ref b121)])
  refine own_go (fun _ => XS.i2b X16.here hx rfl (hb hby at_461) rfl) ?_
  show own_WP p e below _ T16 (mkF m 462 #[.val (.int x0), .val (.int x1), .val (.int x2), .val (.int x3), .val (.int x4), .val (.int x5), .val (.int x6), s7, .val (.ref b39), .val (.int x9), .val (.int x10), .val (.int x11), .val (.int x12), .val (.ref b121), .val (.int t0), .unset] [(.int ((w17 + (1 : Int32)).toInt8.toInt32)), (.int (x10 + (1 : Int32))), (.ref b121)])
  obtain ⟨u18, hg18, hv⟩ := own_bind hv
  obtain ⟨T18, h18, X18, e18, W18, V'18, st18⟩ := own_bastore X16 C e16 V_b121 (j := (x10 + (1 : Int32))) (x := ((w17 + (1 : Int32)).toInt8.toInt32)) hg18 (hb hby at_462)
  refine own_go st18 ?_
  replace V_b20 := V_b20.other W18 (own_ne (by omega))
  replace E_b39 := E_b39.wr W18
  replace F_b39_data := F_b39_data.other W18 (Or.inl (own_ne (by omega)))
  replace F_b39_size := F_b39_size.other W18 (Or.inl (own_ne (by omega)))
  replace V_b81 := V_b81.other W18 (own_ne (by omega))
  replace V_b121 := V'18
  clear V'18
  replace K := K.wr W18 (Or.inr (by omega))
  replace N := Fr.snoc X18 N (by omega)
  show own_WP p e below _ T18 (mkF m 463 #[.val (.int x0), .val (.int x1), .val (.int x2), .val (.int x3), .val (.int x4), .val (.int x5), .val (.int x6), s7, .val (.ref b39), .val (.int x9), .val (.int x10), .val (.int x11), .val (.int x12), .val (.ref b121), .val (.int t0), .unset] [])
  refine own_go (fun _ => XS.aload X18.here hx rfl (hb hby at_463) rfl rfl) ?_
  show own_WP p e below _ T18 (mkF m 465 #[.val (.int x0), .val (.int x1), .val (.int x2), .val (.int x3), .val (.int x4), .val (.int x5), .val (.int x6), s7, .val (.ref b39), .val (.int x9), .val (.int x10), .val (.int x11), .val (.int x12), .val (.ref b121), .val (.int t0), .unset] [(.ref b39)])
  obtain ⟨rr19, hf19, hv⟩ := own_bind hv
  obtain ⟨T19, v19, L19, X19, ⟨N19, K19, Q19⟩, st19⟩ := own_callV X18 C (a := b39) (argsL := []) (rm9 l Z a0 hw n0 h18 (by have q := K.1; omega) (by omega) (by omega) E_b39 F_b39_data F_b39_size V_b81 rr19 hf19) (hw _ (List.mem_of_getElem? (i := 47) rfl)) (hw _ (List.mem_of_getElem? (i := 48) rfl)) (hw _ (List.mem_of_getElem? (i := 50) rfl)) (hw _ (List.mem_of_getElem? (i := 49) rfl)) (hw _ (List.mem_of_getElem? (i := 3) rfl)) (hw _ (List.mem_of_getElem? (i := 51) rfl)) (by decide) e18 E_b39 (W := 0) (pc := 465) (Ls := #[.val (.int x0), .val (.int x1), .val (.int x2), .val (.int x3), .val (.int x4), .val (.int x5), .val (.int x6), s7, .val (.ref b39), .val (.int x9), .val (.int x10), .val (.int x11), .val (.int x12), .val (.ref b121), .val (.int t0), .unset]) rfl (lenOf pd9 rfl) (rest := []) (stk := [(.ref b39)]) rfl (Nat.le_of_ble_eq_true rfl) (hb hby at_465) (by decide) (by decide) (by decide) (by decide)
  replace N := Fr.app N N19
  have lt19 : b121 < h18.size := V_b121.lt
  replace V_b20 := V_b20.keep K19 nin0
  replace E_b39 := E_b39.keep K19
  replace F_b39_data := F_b39_data.keep K19 nin0
  replace F_b39_size := F_b39_size.keep K19 nin0
  replace V_b81 := V_b81.keep K19 nin0
  replace V_b121 := V_b121.keep K19 nin0
  obtain ⟨b465, zz19, rfl, V_b465⟩ := Q19
  have o_b121_b465 : b121 < b465 := by omega
  replace K := K.trans K19 all0
  refine own_go st19 ?_
  show own_WP p e below _ T19 (mkF m 468 #[.val (.int x0), .val (.int x1), .val (.int x2), .val (.int x3), .val (.int x4), .val (.int x5), .val (.int x6), s7, .val (.ref b39), .val (.int x9), .val (.int x10), .val (.int x11), .val (.int x12), .val (.ref b121), .val (.int t0), .unset] [(.ref b465)])
  refine own_go (fun _ => XS.astore X19.here hx rfl (hb hby at_468) rfl rfl (l' := #[.val (.int x0), .val (.int x1), .val (.int x2), .val (.int x3), .val (.int x4), .val (.int x5), .val (.int x6), s7, .val (.ref b39), .val (.int x9), .val (.int x10), .val (.int x11), .val (.int x12), .val (.ref b121), .val (.int t0), .val (.ref b465)]) rfl) ?_
  show own_WP p e below _ T19 (mkF m 470 #[.val (.int x0), .val (.int x1), .val (.int x2), .val (.int x3), .val (.int x4), .val (.int x5), .val (.int x6), s7, .val (.ref b39), .val (.int x9), .val (.int x10), .val (.int x11), .val (.int x12), .val (.ref b121), .val (.int t0), .val (.ref b465)] [])
  refine own_go (fun _ => XS.iload X19.here hx rfl (hb hby at_470) rfl) ?_
  show own_WP p e below _ T19 (mkF m 472 #[.val (.int x0), .val (.int x1), .val (.int x2), .val (.int x3), .val (.int x4), .val (.int x5), .val (.int x6), s7, .val (.ref b39), .val (.int x9), .val (.int x10), .val (.int x11), .val (.int x12), .val (.ref b121), .val (.int t0), .val (.ref b465)] [(.int t0)])
  by_cases h472 : t0 = (0 : Int32)
  · replace hv := (if_pos h472).symm.trans hv
    refine own_go (fun _ => XS.ifYes X19.here hx rfl (pc0 := 472) (pc' := 511) rfl (hb hby at_472) rfl (XT.i0_eq_t h472) (by decide) (by decide)) ?_
    exact b0_511 hw C Z0 rr hP X19 (rfl : T19.heap = T19.heap) N K o_b20_b39 o_b39_b81 o_b81_b121 o_b121_b465 g_b20 z_b20 V_b20 E_b39 F_b39_data F_b39_size V_b81 V_b121 V_b465 x0 x1 x2 x3 x4 x5 x6 s7 hs7 (.val (.ref b39)) (One.val rfl) x9 x10 x11 x12 (.val (.ref b121)) (One.val rfl) t0 (.val (.ref b465)) (One.val rfl) hv
  · replace hv := (if_neg h472).symm.trans hv
    refine own_go (fun _ => XS.ifNo X19.here hx rfl (hb hby at_472) rfl (XT.i0_eq_f h472)) ?_
    show own_WP p e below _ T19 (mkF m 475 #[.val (.int x0), .val (.int x1), .val (.int x2), .val (.int x3), .val (.int x4), .val (.int x5), .val (.int x6), s7, .val (.ref b39), .val (.int x9), .val (.int x10), .val (.int x11), .val (.int x12), .val (.ref b121), .val (.int t0), .val (.ref b465)] [])
    refine own_go (fun _ => XS.aload X19.here hx rfl (hb hby at_475) rfl rfl) ?_
    show own_WP p e below _ T19 (mkF m 477 #[.val (.int x0), .val (.int x1), .val (.int x2), .val (.int x3), .val (.int x4), .val (.int x5), .val (.int x6), s7, .val (.ref b39), .val (.int x9), .val (.int x10), .val (.int x11), .val (.int x12), .val (.ref b121), .val (.int t0), .val (.ref b465)] [(.ref b465)])
    refine own_go (own_lenI X19 C (rfl : T19.heap = T19.heap) V_b465 (hb hby at_477)) ?_
    show own_WP p e below _ T19 (mkF m 478 #[.val (.int x0), .val (.int x1), .val (.int x2), .val (.int x3), .val (.int x4), .val (.int x5), .val (.int x6), s7, .val (.ref b39), .val (.int x9), .val (.int x10), .val (.int x11), .val (.int x12), .val (.ref b121), .val (.int t0), .val (.ref b465)] [(.int (Int32.ofNat rr19.length))])
    refine own_go (fun _ => XS.iload X19.here hx rfl (hb hby at_478) rfl) ?_
    show own_WP p e below _ T19 (mkF m 480 #[.val (.int x0), .val (.int x1), .val (.int x2), .val (.int x3), .val (.int x4), .val (.int x5), .val (.int x6), s7, .val (.ref b39), .val (.int x9), .val (.int x10), .val (.int x11), .val (.int x12), .val (.ref b121), .val (.int t0), .val (.ref b465)] [(.int x12), (.int (Int32.ofNat rr19.length))])
    by_cases h480 : (Int32.ofNat rr19.length) = x12
    · replace hv := (if_pos h480).symm.trans hv
      refine own_go (fun _ => XS.icmpNo X19.here hx rfl (hb hby at_480) rfl (XT.ii_ne_f h480)) ?_
      show own_WP p e below _ T19 (mkF m 483 #[.val (.int x0), .val (.int x1), .val (.int x2), .val (.int x3), .val (.int x4), .val (.int x5), .val (.int x6), s7, .val (.ref b39), .val (.int x9), .val (.int x10), .val (.int x11), .val (.int x12), .val (.ref b121), .val (.int t0), .val (.ref b465)] [])
      refine own_go (fun _ => XS.aload X19.here hx rfl (hb hby at_483) rfl rfl) ?_
      show own_WP p e below _ T19 (mkF m 485 #[.val (.int x0), .val (.int x1), .val (.int x2), .val (.int x3), .val (.int x4), .val (.int x5), .val (.int x6), s7, .val (.ref b39), .val (.int x9), .val (.int x10), .val (.int x11), .val (.int x12), .val (.ref b121), .val (.int t0), .val (.ref b465)] [(.ref b465)])
      refine own_go (fun _ => XS.iconst X19.here hx rfl (hb hby at_485)) ?_
      show own_WP p e below _ T19 (mkF m 486 #[.val (.int x0), .val (.int x1), .val (.int x2), .val (.int x3), .val (.int x4), .val (.int x5), .val (.int x6), s7, .val (.ref b39), .val (.int x9), .val (.int x10), .val (.int x11), .val (.int x12), .val (.ref b121), .val (.int t0), .val (.ref b465)] [(.int (0 : Int32)), (.ref b465)])
      obtain ⟨w20, hg20, hv⟩ := own_bind hv
      refine own_go (own_baload X19 C (rfl : T19.heap = T19.heap) V_b465 hg20 (hb hby at_486)) ?_
      show own_WP p e below _ T19 (mkF m 487 #[.val (.int x0), .val (.int x1), .val (.int x2), .val (.int x3), .val (.int x4), .val (.int x5), .val (.int x6), s7, .val (.ref b39), .val (.int x9), .val (.int x10), .val (.int x11), .val (.int x12), .val (.ref b121), .val (.int t0), .val (.ref b465)] [(.int w20)])
      refine own_go (fun _ => XS.iloadN X19.here hx rfl (hb hby at_487) rfl) ?_
      show own_WP p e below _ T19 (mkF m 488 #[.val (.int x0), .val (.int x1), .val (.int x2), .val (.int x3), .val (.int x4), .val (.int x5), .val (.int x6), s7, .val (.ref b39), .val (.int x9), .val (.int x10), .val (.int x11), .val (.int x12), .val (.ref b121), .val (.int t0), .val (.ref b465)] [(.int x0), (.int w20)])
      refine own_go (fun _ => XS.i2b X19.here hx rfl (hb hby at_488) rfl) ?_
      show own_WP p e below _ T19 (mkF m 489 #[.val (.int x0), .val (.int x1), .val (.int x2), .val (.int x3), .val (.int x4), .val (.int x5), .val (.int x6), s7, .val (.ref b39), .val (.int x9), .val (.int x10), .val (.int x11), .val (.int x12), .val (.ref b121), .val (.int t0), .val (.ref b465)] [(.int (x0.toInt8.toInt32)), (.int w20)])
      by_cases h489 : w20 = (x0.toInt8.toInt32)
      · replace hv := (if_pos h489).symm.trans hv
        refine own_go (fun _ => XS.icmpNo X19.here hx rfl (hb hby at_489) rfl (XT.ii_ne_f h489)) ?_
        show own_WP p e below _ T19 (mkF m 492 #[.val (.int x0), .val (.int x1), .val (.int x2), .val (.int x3), .val (.int x4), .val (.int x5), .val (.int x6), s7, .val (.ref b39), .val (.int x9), .val (.int x10), .val (.int x11), .val (.int x12), .val (.ref b121), .val (.int t0), .val (.ref b465)] [])
        refine own_go (fun _ => XS.aload X19.here hx rfl (hb hby at_492) rfl rfl) ?_
        show own_WP p e below _ T19 (mkF m 494 #[.val (.int x0), .val (.int x1), .val (.int x2), .val (.int x3), .val (.int x4), .val (.int x5), .val (.int x6), s7, .val (.ref b39), .val (.int x9), .val (.int x10), .val (.int x11), .val (.int x12), .val (.ref b121), .val (.int t0), .val (.ref b465)] [(.ref b465)])
        refine own_go (fun _ => XS.iload X19.here hx rfl (hb hby at_494) rfl) ?_
        show own_WP p e below _ T19 (mkF m 496 #[.val (.int x0), .val (.int x1), .val (.int x2), .val (.int x3), .val (.int x4), .val (.int x5), .val (.int x6), s7, .val (.ref b39), .val (.int x9), .val (.int x10), .val (.int x11), .val (.int x12), .val (.ref b121), .val (.int t0), .val (.ref b465)] [(.int x10), (.ref b465)])
        refine own_go (fun _ => XS.iconst X19.here hx rfl (hb hby at_496)) ?_
        show own_WP p e below _ T19 (mkF m 497 #[.val (.int x0), .val (.int x1), .val (.int x2), .val (.int x3), .val (.int x4), .val (.int x5), .val (.int x6), s7, .val (.ref b39), .val (.int x9), .val (.int x10), .val (.int x11), .val (.int x12), .val (.ref b121), .val (.int t0), .val (.ref b465)] [(.int (1 : Int32)), (.int x10), (.ref b465)])
        refine own_go (fun _ => XS.iadd X19.here hx rfl (hb hby at_497) rfl) ?_
        show own_WP p e below _ T19 (mkF m 498 #[.val (.int x0), .val (.int x1), .val (.int x2), .val (.int x3), .val (.int x4), .val (.int x5), .val (.int x6), s7, .val (.ref b39), .val (.int x9), .val (.int x10), .val (.int x11), .val (.int x12), .val (.ref b121), .val (.int t0), .val (.ref b465)] [(.int (x10 + (1 : Int32))), (.ref b465)])
        obtain ⟨w21, hg21, hv⟩ := own_bind hv
        refine own_go (own_baload X19 C (rfl : T19.heap = T19.heap) V_b465 hg21 (hb hby at_498)) ?_
        show own_WP p e below _ T19 (mkF m 499 #[.val (.int x0), .val (.int x1), .val (.int x2), .val (.int x3), .val (.int x4), .val (.int x5), .val (.int x6), s7, .val (.ref b39), .val (.int x9), .val (.int x10), .val (.int x11), .val (.int x12), .val (.ref b121), .val (.int t0), .val (.ref b465)] [(.int w21)])
        refine own_go (fun _ => XS.iloadN X19.here hx rfl (hb hby at_499) rfl) ?_
        show own_WP p e below _ T19 (mkF m 500 #[.val (.int x0), .val (.int x1), .val (.int x2), .val (.int x3), .val (.int x4), .val (.int x5), .val (.int x6), s7, .val (.ref b39), .val (.int x9), .val (.int x10), .val (.int x11), .val (.int x12), .val (.ref b121), .val (.int t0), .val (.ref b465)] [(.int x2), (.int w21)])
        refine own_go (fun _ => XS.bipush X19.here hx rfl (hb hby at_500)) ?_
        show own_WP p e below _ T19 (mkF m 502 #[.val (.int x0), .val (.int x1), .val (.int x2), .val (.int x3), .val (.int x4), .val (.int x5), .val (.int x6), s7, .val (.ref b39), .val (.int x9), .val (.int x10), .val (.int x11), .val (.int x12), .val (.ref b121), .val (.int t0), .val (.ref b465)] [(.int (8 : Int32)), (.int x2), (.int w21)])
        refine own_go (fun _ => XT.iushr X19.here hx rfl (hb hby at_502) rfl) ?_
        show own_WP p e below _ T19 (mkF m 503 #[.val (.int x0), .val (.int x1), .val (.int x2), .val (.int x3), .val (.int x4), .val (.int x5), .val (.int x6), s7, .val (.ref b39), .val (.int x9), .val (.int x10), .val (.int x11), .val (.int x12), .val (.ref b121), .val (.int t0), .val (.ref b465)] [(.int (XT.ushr x2 (8 : Int32))), (.int w21)])
        refine own_go (fun _ => XS.i2b X19.here hx rfl (hb hby at_503) rfl) ?_
        show own_WP p e below _ T19 (mkF m 504 #[.val (.int x0), .val (.int x1), .val (.int x2), .val (.int x3), .val (.int x4), .val (.int x5), .val (.int x6), s7, .val (.ref b39), .val (.int x9), .val (.int x10), .val (.int x11), .val (.int x12), .val (.ref b121), .val (.int t0), .val (.ref b465)] [(.int ((XT.ushr x2 (8 : Int32)).toInt8.toInt32)), (.int w21)])
        by_cases h504 : w21 = ((XT.ushr x2 (8 : Int32)).toInt8.toInt32)
        · replace hv := (if_pos h504).symm.trans hv
          refine own_go (fun _ => XS.icmpNo X19.here hx rfl (hb hby at_504) rfl (XT.ii_ne_f h504)) ?_
          show own_WP p e below _ T19 (mkF m 507 #[.val (.int x0), .val (.int x1), .val (.int x2), .val (.int x3), .val (.int x4), .val (.int x5), .val (.int x6), s7, .val (.ref b39), .val (.int x9), .val (.int x10), .val (.int x11), .val (.int x12), .val (.ref b121), .val (.int t0), .val (.ref b465)] [])
          refine own_go (fun _ => XS.iconst X19.here hx rfl (hb hby at_507)) ?_
          show own_WP p e below _ T19 (mkF m 508 #[.val (.int x0), .val (.int x1), .val (.int x2), .val (.int x3), .val (.int x4), .val (.int x5), .val (.int x6), s7, .val (.ref b39), .val (.int x9), .val (.int x10), .val (.int x11), .val (.int x12), .val (.ref b121), .val (.int t0), .val (.ref b465)] [(.int (1 : Int32))])
          refine own_go (fun _ => XS.goto X19.here hx rfl (pc0 := 508) (pc' := 512) rfl (hb hby at_508) (by decide) (by decide)) ?_
          show own_WP p e below _ T19 (mkF m 512 #[.val (.int x0), .val (.int x1), .val (.int x2), .val (.int x3), .val (.int x4), .val (.int x5), .val (.int x6), s7, .val (.ref b39), .val (.int x9), .val (.int x10), .val (.int x11), .val (.int x12), .val (.ref b121), .val (.int t0), .val (.ref b465)] [(.int (1 : Int32))])
          refine own_go (fun _ => XS.istore X19.here hx rfl (hb hby at_512) rfl (l' := #[.val (.int x0), .val (.int x1), .val (.int x2), .val (.int x3), .val (.int x4), .val (.int x5), .val (.int x6), s7, .val (.ref b39), .val (.int x9), .val (.int x10), .val (.int x11), .val (.int x12), .val (.ref b121), .val (.int (1 : Int32)), .val (.ref b465)]) rfl) ?_
          show own_WP p e below _ T19 (mkF m 514 #[.val (.int x0), .val (.int x1), .val (.int x2), .val (.int x3), .val (.int x4), .val (.int x5), .val (.int x6), s7, .val (.ref b39), .val (.int x9), .val (.int x10), .val (.int x11), .val (.int x12), .val (.ref b121), .val (.int (1 : Int32)), .val (.ref b465)] [])
          refine own_go (fun _ => XS.iload X19.here hx rfl (hb hby at_514) rfl) ?_
          show own_WP p e below _ T19 (mkF m 516 #[.val (.int x0), .val (.int x1), .val (.int x2), .val (.int x3), .val (.int x4), .val (.int x5), .val (.int x6), s7, .val (.ref b39), .val (.int x9), .val (.int x10), .val (.int x11), .val (.int x12), .val (.ref b121), .val (.int (1 : Int32)), .val (.ref b465)] [(.int (1 : Int32))])
          obtain rfl := Option.some.inj hv
          exact own_retN X19 C (by simp) (hb hby at_516) (hP _ _ _ N K rfl) (by decide) (by decide)
        · replace hv := (if_neg h504).symm.trans hv
          refine own_go (fun _ => XS.icmpYes X19.here hx rfl (pc0 := 504) (pc' := 511) rfl (hb hby at_504) rfl (XT.ii_ne_t h504) (by decide) (by decide)) ?_
          exact b0_511 hw C Z0 rr hP X19 (rfl : T19.heap = T19.heap) N K o_b20_b39 o_b39_b81 o_b81_b121 o_b121_b465 g_b20 z_b20 V_b20 E_b39 F_b39_data F_b39_size V_b81 V_b121 V_b465 x0 x1 x2 x3 x4 x5 x6 s7 hs7 (.val (.ref b39)) (One.val rfl) x9 x10 x11 x12 (.val (.ref b121)) (One.val rfl) t0 (.val (.ref b465)) (One.val rfl) hv
      · replace hv := (if_neg h489).symm.trans hv
        refine own_go (fun _ => XS.icmpYes X19.here hx rfl (pc0 := 489) (pc' := 511) rfl (hb hby at_489) rfl (XT.ii_ne_t h489) (by decide) (by decide)) ?_
        exact b0_511 hw C Z0 rr hP X19 (rfl : T19.heap = T19.heap) N K o_b20_b39 o_b39_b81 o_b81_b121 o_b121_b465 g_b20 z_b20 V_b20 E_b39 F_b39_data F_b39_size V_b81 V_b121 V_b465 x0 x1 x2 x3 x4 x5 x6 s7 hs7 (.val (.ref b39)) (One.val rfl) x9 x10 x11 x12 (.val (.ref b121)) (One.val rfl) t0 (.val (.ref b465)) (One.val rfl) hv
    · replace hv := (if_neg h480).symm.trans hv
      refine own_go (fun _ => XS.icmpYes X19.here hx rfl (pc0 := 480) (pc' := 511) rfl (hb hby at_480) rfl (XT.ii_ne_t h480) (by decide) (by decide)) ?_
      exact b0_511 hw C Z0 rr hP X19 (rfl : T19.heap = T19.heap) N K o_b20_b39 o_b39_b81 o_b81_b121 o_b121_b465 g_b20 z_b20 V_b20 E_b39 F_b39_data F_b39_size V_b81 V_b121 V_b465 x0 x1 x2 x3 x4 x5 x6 s7 hs7 (.val (.ref b39)) (One.val rfl) x9 x10 x11 x12 (.val (.ref b121)) (One.val rfl) t0 (.val (.ref b465)) (One.val rfl) hv
def f0_432 (c_b39_size : Int32) (v_b81 : List Int32) (v_b121 : List Int32) (x0 : Int32) (x2 : Int32) (x10 : Int32) (x12 : Int32) : Option (Int32) := (f0_433 c_b39_size v_b81 v_b121 x0 x2 x10 x12 (0 : Int32))
set_option maxRecDepth 65536 in
set_option maxHeartbeats 40000000 in
theorem b0_432 {p : Program} {l : Launch} {e : Env} {s : State} {m : MethodId} {args : Array Value} {below : List Frame} {meth : Method} {c : Code} {Z : State} {a0 : Array Value} {h0 : Heap} {n0 : Nat} {P : Option Value → Heap → List Loc → Prop} (hw : ∀ d ∈ tables_1, d.before a0 Z = true) (C : own_Ctx p s m meth c Z x code maxLocals ret) (Z0 : n0 ≤ h0.size)   (rr : Int32) (hP : ∀ v h L, Fr n0 L → Keep h0 h [] → E0 Z h0  rr v h → P v h L)
    {T : State} {locs : List Loc} {h : Heap} {b20 : Nat} {b39 : Nat} {b81 : Nat} {b121 : Nat} {v_b20 : List Int32} {c_b39_size : Int32} {v_b81 : List Int32} {v_b121 : List Int32} (X : Stand p l e room_1 s m args below meth c T locs 9 1617) (e0 : T.heap = h) (N : Fr n0 locs) (K : Keep h0 h []) (o_b20_b39 : b20 < b39) (o_b39_b81 : b39 < b81) (o_b81_b121 : b81 < b121) (g_b20 : n0 ≤ b20) (z_b20 : h0.size ≤ b20) (V_b20 : own_AI Z h b20 .byte v_b20) (E_b39 : Exa Z h b39 "com/example/objwire/objwire/ndr/NdrWriter") (F_b39_data : Fld Z h b39 "com/example/objwire/objwire/ndr/NdrWriter" "data" "[B" (.ref b81)) (F_b39_size : Fld Z h b39 "com/example/objwire/objwire/ndr/NdrWriter" "size" "I" (.int c_b39_size)) (V_b81 : own_AI Z h b81 .byte v_b81) (V_b121 : own_AI Z h b121 .byte v_b121) (x0 : Int32) (x1 : Int32) (x2 : Int32) (x3 : Int32) (x4 : Int32) (x5 : Int32) (x6 : Int32) (s7 : Slot) (hs7 : One s7) (x9 : Int32) (x10 : Int32) (x11 : Int32) (x12 : Int32) (x14 : Int32) (hv : f0_432 c_b39_size v_b81 v_b121 x0 x2 x10 x12 = some rr) :
    own_WP p e below (own_Q s P room_1.cells room_1.slots) T (mkF m 432 #[.val (.int x0), .val (.int x1), .val (.int x2), .val (.int x3), .val (.int x4), .val (.int x5), .val (.int x6), s7, .val (.ref b39), .val (.int x9), .val (.int x10), .val (.int x11), .val (.int x12), .val (.ref b121), .val (.int x14), .unset] []) := by
  obtain ⟨hx, hZ, hby, hml, hown, hnm, hret, hlk⟩ := id C
  replace hown : s.vm.findClass "com/example/objwire/objwire/ndr/NdrWriterToByteArrayPinLaw" = some m.cls := hown
  unfold f0_432 at hv
  show own_WP p e below _ T (mkF m 432 #[.val (.int x0), .val (.int x1), .val (.int x2), .val (.int x3), .val (.int x4), .val (.int x5), .val (.int x6), s7, .val (.ref b39), .val (.int x9), .val (.int x10), .val (.int x11), .val (.int x12), .val (.ref b121), .val (.int x14), .unset] [])
  refine own_go (fun _ => XS.iconst X.here hx rfl (hb hby at_432)) ?_
  exact b0_433 hw C Z0 rr hP X e0 N K o_b20_b39 o_b39_b81 o_b81_b121 g_b20 z_b20 V_b20 E_b39 F_b39_data F_b39_size V_b81 V_b121 x0 x1 x2 x3 x4 x5 x6 s7 hs7 x9 x10 x11 x12 x14 (0 : Int32) hv
def f0_396 (c_b39_size : Int32) (v_b81 : List Int32) (v_b121 : List Int32) (x0 : Int32) (x2 : Int32) (x10 : Int32) (x12 : Int32) (t0 : Int32) : Option (Int32) := (if t0 = (0 : Int32) then (f0_432 c_b39_size v_b81 v_b121 x0 x2 x10 x12) else ((own_get v_b121 x10).bind fun w22 => (if w22 = (x2.toInt8.toInt32) then ((own_get v_b121 (x10 + (1 : Int32))).bind fun w23 => (if w23 = ((XT.ushr x2 (8 : Int32)).toInt8.toInt32) then (f0_433 c_b39_size v_b81 v_b121 x0 x2 x10 x12 (1 : Int32)) else (f0_432 c_b39_size v_b81 v_b121 x0 x2 x10 x12))) else (f0_432 c_b39_size v_b81 v_b121 x0 x2 x10 x12))))
set_option maxRecDepth 65536 in
set_option maxHeartbeats 40000000 in
theorem b0_396 {p : Program} {l : Launch} {e : Env} {s : State} {m : MethodId} {args : Array Value} {below : List Frame} {meth : Method} {c : Code} {Z : State} {a0 : Array Value} {h0 : Heap} {n0 : Nat} {P : Option Value → Heap → List Loc → Prop} (hw : ∀ d ∈ tables_1, d.before a0 Z = true) (C : own_Ctx p s m meth c Z x code maxLocals ret) (Z0 : n0 ≤ h0.size)   (rr : Int32) (hP : ∀ v h L, Fr n0 L → Keep h0 h [] → E0 Z h0  rr v h → P v h L)
    {T : State} {locs : List Loc} {h : Heap} {b20 : Nat} {b39 : Nat} {b81 : Nat} {b121 : Nat} {v_b20 : List Int32} {c_b39_size : Int32} {v_b81 : List Int32} {v_b121 : List Int32} (X : Stand p l e room_1 s m args below meth c T locs 9 1617) (e0 : T.heap = h) (N : Fr n0 locs) (K : Keep h0 h []) (o_b20_b39 : b20 < b39) (o_b39_b81 : b39 < b81) (o_b81_b121 : b81 < b121) (g_b20 : n0 ≤ b20) (z_b20 : h0.size ≤ b20) (V_b20 : own_AI Z h b20 .byte v_b20) (E_b39 : Exa Z h b39 "com/example/objwire/objwire/ndr/NdrWriter") (F_b39_data : Fld Z h b39 "com/example/objwire/objwire/ndr/NdrWriter" "data" "[B" (.ref b81)) (F_b39_size : Fld Z h b39 "com/example/objwire/objwire/ndr/NdrWriter" "size" "I" (.int c_b39_size)) (V_b81 : own_AI Z h b81 .byte v_b81) (V_b121 : own_AI Z h b121 .byte v_b121) (x0 : Int32) (x1 : Int32) (x2 : Int32) (x3 : Int32) (x4 : Int32) (x5 : Int32) (x6 : Int32) (s7 : Slot) (hs7 : One s7) (x9 : Int32) (x10 : Int32) (x11 : Int32) (x12 : Int32) (x14 : Int32) (t0 : Int32) (hv : f0_396 c_b39_size v_b81 v_b121 x0 x2 x10 x12 t0 = some rr) :
    own_WP p e below (own_Q s P room_1.cells room_1.slots) T (mkF m 396 #[.val (.int x0), .val (.int x1), .val (.int x2), .val (.int x3), .val (.int x4), .val (.int x5), .val (.int x6), s7, .val (.ref b39), .val (.int x9), .val (.int x10), .val (.int x11), .val (.int x12), .val (.ref b121), .val (.int x14), .unset] [(.int t0)]) := by
  obtain ⟨hx, hZ, hby, hml, hown, hnm, hret, hlk⟩ := id C
  replace hown : s.vm.findClass "com/example/objwire/objwire/ndr/NdrWriterToByteArrayPinLaw" = some m.cls := hown
  unfold f0_396 at hv
  show own_WP p e below _ T (mkF m 396 #[.val (.int x0), .val (.int x1), .val (.int x2), .val (.int x3), .val (.int x4), .val (.int x5), .val (.int x6), s7, .val (.ref b39), .val (.int x9), .val (.int x10), .val (.int x11), .val (.int x12), .val (.ref b121), .val (.int x14), .unset] [(.int t0)])
  refine own_go (fun _ => XS.istore X.here hx rfl (hb hby at_396) rfl (l' := #[.val (.int x0), .val (.int x1), .val (.int x2), .val (.int x3), .val (.int x4), .val (.int x5), .val (.int x6), s7, .val (.ref b39), .val (.int x9), .val (.int x10), .val (.int x11), .val (.int x12), .val (.ref b121), .val (.int t0), .unset]) rfl) ?_
  show own_WP p e below _ T (mkF m 398 #[.val (.int x0), .val (.int x1), .val (.int x2), .val (.int x3), .val (.int x4), .val (.int x5), .val (.int x6), s7, .val (.ref b39), .val (.int x9), .val (.int x10), .val (.int x11), .val (.int x12), .val (.ref b121), .val (.int t0), .unset] [])
  refine own_go (fun _ => XS.iload X.here hx rfl (hb hby at_398) rfl) ?_
  show own_WP p e below _ T (mkF m 400 #[.val (.int x0), .val (.int x1), .val (.int x2), .val (.int x3), .val (.int x4), .val (.int x5), .val (.int x6), s7, .val (.ref b39), .val (.int x9), .val (.int x10), .val (.int x11), .val (.int x12), .val (.ref b121), .val (.int t0), .unset] [(.int t0)])
  by_cases h400 : t0 = (0 : Int32)
  · replace hv := (if_pos h400).symm.trans hv
    refine own_go (fun _ => XS.ifYes X.here hx rfl (pc0 := 400) (pc' := 432) rfl (hb hby at_400) rfl (XT.i0_eq_t h400) (by decide) (by decide)) ?_
    exact b0_432 hw C Z0 rr hP X e0 N K o_b20_b39 o_b39_b81 o_b81_b121 g_b20 z_b20 V_b20 E_b39 F_b39_data F_b39_size V_b81 V_b121 x0 x1 x2 x3 x4 x5 x6 s7 hs7 x9 x10 x11 x12 t0 hv
  · replace hv := (if_neg h400).symm.trans hv
    refine own_go (fun _ => XS.ifNo X.here hx rfl (hb hby at_400) rfl (XT.i0_eq_f h400)) ?_
    show own_WP p e below _ T (mkF m 403 #[.val (.int x0), .val (.int x1), .val (.int x2), .val (.int x3), .val (.int x4), .val (.int x5), .val (.int x6), s7, .val (.ref b39), .val (.int x9), .val (.int x10), .val (.int x11), .val (.int x12), .val (.ref b121), .val (.int t0), .unset] [])
    refine own_go (fun _ => XS.aload X.here hx rfl (hb hby at_403) rfl rfl) ?_
    show own_WP p e below _ T (mkF m 405 #[.val (.int x0), .val (.int x1), .val (.int x2), .val (.int x3), .val (.int x4), .val (.int x5), .val (.int x6), s7, .val (.ref b39), .val (.int x9), .val (.int x10), .val (.int x11), .val (.int x12), .val (.ref b121), .val (.int t0), .unset] [(.ref b121)])
    refine own_go (fun _ => XS.iload X.here hx rfl (hb hby at_405) rfl) ?_
    show own_WP p e below _ T (mkF m 407 #[.val (.int x0), .val (.int x1), .val (.int x2), .val (.int x3), .val (.int x4), .val (.int x5), .val (.int x6), s7, .val (.ref b39), .val (.int x9), .val (.int x10), .val (.int x11), .val (.int x12), .val (.ref b121), .val (.int t0), .unset] [(.int x10), (.ref b121)])
    obtain ⟨w22, hg22, hv⟩ := own_bind hv
    refine own_go (own_baload X C e0 V_b121 hg22 (hb hby at_407)) ?_
    show own_WP p e below _ T (mkF m 408 #[.val (.int x0), .val (.int x1), .val (.int x2), .val (.int x3), .val (.int x4), .val (.int x5), .val (.int x6), s7, .val (.ref b39), .val (.int x9), .val (.int x10), .val (.int x11), .val (.int x12), .val (.ref b121), .val (.int t0), .unset] [(.int w22)])
    refine own_go (fun _ => XS.iloadN X.here hx rfl (hb hby at_408) rfl) ?_
    show own_WP p e below _ T (mkF m 409 #[.val (.int x0), .val (.int x1), .val (.int x2), .val (.int x3), .val (.int x4), .val (.int x5), .val (.int x6), s7, .val (.ref b39), .val (.int x9), .val (.int x10), .val (.int x11), .val (.int x12), .val (.ref b121), .val (.int t0), .unset] [(.int x2), (.int w22)])
    refine own_go (fun _ => XS.i2b X.here hx rfl (hb hby at_409) rfl) ?_
    show own_WP p e below _ T (mkF m 410 #[.val (.int x0), .val (.int x1), .val (.int x2), .val (.int x3), .val (.int x4), .val (.int x5), .val (.int x6), s7, .val (.ref b39), .val (.int x9), .val (.int x10), .val (.int x11), .val (.int x12), .val (.ref b121), .val (.int t0), .unset] [(.int (x2.toInt8.toInt32)), (.int w22)])
    by_cases h410 : w22 = (x2.toInt8.toInt32)
    · replace hv := (if_pos h410).symm.trans hv
      refine own_go (fun _ => XS.icmpNo X.here hx rfl (hb hby at_410) rfl (XT.ii_ne_f h410)) ?_
      show own_WP p e below _ T (mkF m 413 #[.val (.int x0), .val (.int x1), .val (.int x2), .val (.int x3), .val (.int x4), .val (.int x5), .val (.int x6), s7, .val (.ref b39), .val (.int x9), .val (.int x10), .val (.int x11), .val (.int x12), .val (.ref b121), .val (.int t0), .unset] [])
      refine own_go (fun _ => XS.aload X.here hx rfl (hb hby at_413) rfl rfl) ?_
      show own_WP p e below _ T (mkF m 415 #[.val (.int x0), .val (.int x1), .val (.int x2), .val (.int x3), .val (.int x4), .val (.int x5), .val (.int x6), s7, .val (.ref b39), .val (.int x9), .val (.int x10), .val (.int x11), .val (.int x12), .val (.ref b121), .val (.int t0), .unset] [(.ref b121)])
      refine own_go (fun _ => XS.iload X.here hx rfl (hb hby at_415) rfl) ?_
      show own_WP p e below _ T (mkF m 417 #[.val (.int x0), .val (.int x1), .val (.int x2), .val (.int x3), .val (.int x4), .val (.int x5), .val (.int x6), s7, .val (.ref b39), .val (.int x9), .val (.int x10), .val (.int x11), .val (.int x12), .val (.ref b121), .val (.int t0), .unset] [(.int x10), (.ref b121)])
      refine own_go (fun _ => XS.iconst X.here hx rfl (hb hby at_417)) ?_
      show own_WP p e below _ T (mkF m 418 #[.val (.int x0), .val (.int x1), .val (.int x2), .val (.int x3), .val (.int x4), .val (.int x5), .val (.int x6), s7, .val (.ref b39), .val (.int x9), .val (.int x10), .val (.int x11), .val (.int x12), .val (.ref b121), .val (.int t0), .unset] [(.int (1 : Int32)), (.int x10), (.ref b121)])
      refine own_go (fun _ => XS.iadd X.here hx rfl (hb hby at_418) rfl) ?_
      show own_WP p e below _ T (mkF m 419 #[.val (.int x0), .val (.int x1), .val (.int x2), .val (.int x3), .val (.int x4), .val (.int x5), .val (.int x6), s7, .val (.ref b39), .val (.int x9), .val (.int x10), .val (.int x11), .val (.int x12), .val (.ref b121), .val (.int t0), .unset] [(.int (x10 + (1 : Int32))), (.ref b121)])
      obtain ⟨w23, hg23, hv⟩ := own_bind hv
      refine own_go (own_baload X C e0 V_b121 hg23 (hb hby at_419)) ?_
      show own_WP p e below _ T (mkF m 420 #[.val (.int x0), .val (.int x1), .val (.int x2), .val (.int x3), .val (.int x4), .val (.int x5), .val (.int x6), s7, .val (.ref b39), .val (.int x9), .val (.int x10), .val (.int x11), .val (.int x12), .val (.ref b121), .val (.int t0), .unset] [(.int w23)])
      refine own_go (fun _ => XS.iloadN X.here hx rfl (hb hby at_420) rfl) ?_
      show own_WP p e below _ T (mkF m 421 #[.val (.int x0), .val (.int x1), .val (.int x2), .val (.int x3), .val (.int x4), .val (.int x5), .val (.int x6), s7, .val (.ref b39), .val (.int x9), .val (.int x10), .val (.int x11), .val (.int x12), .val (.ref b121), .val (.int t0), .unset] [(.int x2), (.int w23)])
      refine own_go (fun _ => XS.bipush X.here hx rfl (hb hby at_421)) ?_
      show own_WP p e below _ T (mkF m 423 #[.val (.int x0), .val (.int x1), .val (.int x2), .val (.int x3), .val (.int x4), .val (.int x5), .val (.int x6), s7, .val (.ref b39), .val (.int x9), .val (.int x10), .val (.int x11), .val (.int x12), .val (.ref b121), .val (.int t0), .unset] [(.int (8 : Int32)), (.int x2), (.int w23)])
      refine own_go (fun _ => XT.iushr X.here hx rfl (hb hby at_423) rfl) ?_
      show own_WP p e below _ T (mkF m 424 #[.val (.int x0), .val (.int x1), .val (.int x2), .val (.int x3), .val (.int x4), .val (.int x5), .val (.int x6), s7, .val (.ref b39), .val (.int x9), .val (.int x10), .val (.int x11), .val (.int x12), .val (.ref b121), .val (.int t0), .unset] [(.int (XT.ushr x2 (8 : Int32))), (.int w23)])
      refine own_go (fun _ => XS.i2b X.here hx rfl (hb hby at_424) rfl) ?_
      show own_WP p e below _ T (mkF m 425 #[.val (.int x0), .val (.int x1), .val (.int x2), .val (.int x3), .val (.int x4), .val (.int x5), .val (.int x6), s7, .val (.ref b39), .val (.int x9), .val (.int x10), .val (.int x11), .val (.int x12), .val (.ref b121), .val (.int t0), .unset] [(.int ((XT.ushr x2 (8 : Int32)).toInt8.toInt32)), (.int w23)])
      by_cases h425 : w23 = ((XT.ushr x2 (8 : Int32)).toInt8.toInt32)
      · replace hv := (if_pos h425).symm.trans hv
        refine own_go (fun _ => XS.icmpNo X.here hx rfl (hb hby at_425) rfl (XT.ii_ne_f h425)) ?_
        show own_WP p e below _ T (mkF m 428 #[.val (.int x0), .val (.int x1), .val (.int x2), .val (.int x3), .val (.int x4), .val (.int x5), .val (.int x6), s7, .val (.ref b39), .val (.int x9), .val (.int x10), .val (.int x11), .val (.int x12), .val (.ref b121), .val (.int t0), .unset] [])
        refine own_go (fun _ => XS.iconst X.here hx rfl (hb hby at_428)) ?_
        show own_WP p e below _ T (mkF m 429 #[.val (.int x0), .val (.int x1), .val (.int x2), .val (.int x3), .val (.int x4), .val (.int x5), .val (.int x6), s7, .val (.ref b39), .val (.int x9), .val (.int x10), .val (.int x11), .val (.int x12), .val (.ref b121), .val (.int t0), .unset] [(.int (1 : Int32))])
        refine own_go (fun _ => XS.goto X.here hx rfl (pc0 := 429) (pc' := 433) rfl (hb hby at_429) (by decide) (by decide)) ?_
        exact b0_433 hw C Z0 rr hP X e0 N K o_b20_b39 o_b39_b81 o_b81_b121 g_b20 z_b20 V_b20 E_b39 F_b39_data F_b39_size V_b81 V_b121 x0 x1 x2 x3 x4 x5 x6 s7 hs7 x9 x10 x11 x12 t0 (1 : Int32) hv
      · replace hv := (if_neg h425).symm.trans hv
        refine own_go (fun _ => XS.icmpYes X.here hx rfl (pc0 := 425) (pc' := 432) rfl (hb hby at_425) rfl (XT.ii_ne_t h425) (by decide) (by decide)) ?_
        exact b0_432 hw C Z0 rr hP X e0 N K o_b20_b39 o_b39_b81 o_b81_b121 g_b20 z_b20 V_b20 E_b39 F_b39_data F_b39_size V_b81 V_b121 x0 x1 x2 x3 x4 x5 x6 s7 hs7 x9 x10 x11 x12 t0 hv
    · replace hv := (if_neg h410).symm.trans hv
      refine own_go (fun _ => XS.icmpYes X.here hx rfl (pc0 := 410) (pc' := 432) rfl (hb hby at_410) rfl (XT.ii_ne_t h410) (by decide) (by decide)) ?_
      exact b0_432 hw C Z0 rr hP X e0 N K o_b20_b39 o_b39_b81 o_b81_b121 g_b20 z_b20 V_b20 E_b39 F_b39_data F_b39_size V_b81 V_b121 x0 x1 x2 x3 x4 x5 x6 s7 hs7 x9 x10 x11 x12 t0 hv
def f0_395 (c_b39_size : Int32) (v_b81 : List Int32) (v_b121 : List Int32) (x0 : Int32) (x2 : Int32) (x10 : Int32) (x12 : Int32) : Option (Int32) := (f0_396 c_b39_size v_b81 v_b121 x0 x2 x10 x12 (0 : Int32))
set_option maxRecDepth 65536 in
set_option maxHeartbeats 40000000 in
theorem b0_395 {p : Program} {l : Launch} {e : Env} {s : State} {m : MethodId} {args : Array Value} {below : List Frame} {meth : Method} {c : Code} {Z : State} {a0 : Array Value} {h0 : Heap} {n0 : Nat} {P : Option Value → Heap → List Loc → Prop} (hw : ∀ d ∈ tables_1, d.before a0 Z = true) (C : own_Ctx p s m meth c Z x code maxLocals ret) (Z0 : n0 ≤ h0.size)   (rr : Int32) (hP : ∀ v h L, Fr n0 L → Keep h0 h [] → E0 Z h0  rr v h → P v h L)
    {T : State} {locs : List Loc} {h : Heap} {b20 : Nat} {b39 : Nat} {b81 : Nat} {b121 : Nat} {v_b20 : List Int32} {c_b39_size : Int32} {v_b81 : List Int32} {v_b121 : List Int32} (X : Stand p l e room_1 s m args below meth c T locs 9 1617) (e0 : T.heap = h) (N : Fr n0 locs) (K : Keep h0 h []) (o_b20_b39 : b20 < b39) (o_b39_b81 : b39 < b81) (o_b81_b121 : b81 < b121) (g_b20 : n0 ≤ b20) (z_b20 : h0.size ≤ b20) (V_b20 : own_AI Z h b20 .byte v_b20) (E_b39 : Exa Z h b39 "com/example/objwire/objwire/ndr/NdrWriter") (F_b39_data : Fld Z h b39 "com/example/objwire/objwire/ndr/NdrWriter" "data" "[B" (.ref b81)) (F_b39_size : Fld Z h b39 "com/example/objwire/objwire/ndr/NdrWriter" "size" "I" (.int c_b39_size)) (V_b81 : own_AI Z h b81 .byte v_b81) (V_b121 : own_AI Z h b121 .byte v_b121) (x0 : Int32) (x1 : Int32) (x2 : Int32) (x3 : Int32) (x4 : Int32) (x5 : Int32) (x6 : Int32) (s7 : Slot) (hs7 : One s7) (x9 : Int32) (x10 : Int32) (x11 : Int32) (x12 : Int32) (x14 : Int32) (hv : f0_395 c_b39_size v_b81 v_b121 x0 x2 x10 x12 = some rr) :
    own_WP p e below (own_Q s P room_1.cells room_1.slots) T (mkF m 395 #[.val (.int x0), .val (.int x1), .val (.int x2), .val (.int x3), .val (.int x4), .val (.int x5), .val (.int x6), s7, .val (.ref b39), .val (.int x9), .val (.int x10), .val (.int x11), .val (.int x12), .val (.ref b121), .val (.int x14), .unset] []) := by
  obtain ⟨hx, hZ, hby, hml, hown, hnm, hret, hlk⟩ := id C
  replace hown : s.vm.findClass "com/example/objwire/objwire/ndr/NdrWriterToByteArrayPinLaw" = some m.cls := hown
  unfold f0_395 at hv
  show own_WP p e below _ T (mkF m 395 #[.val (.int x0), .val (.int x1), .val (.int x2), .val (.int x3), .val (.int x4), .val (.int x5), .val (.int x6), s7, .val (.ref b39), .val (.int x9), .val (.int x10), .val (.int x11), .val (.int x12), .val (.ref b121), .val (.int x14), .unset] [])
  refine own_go (fun _ => XS.iconst X.here hx rfl (hb hby at_395)) ?_
  exact b0_396 hw C Z0 rr hP X e0 N K o_b20_b39 o_b39_b81 o_b81_b121 g_b20 z_b20 V_b20 E_b39 F_b39_data F_b39_size V_b81 V_b121 x0 x1 x2 x3 x4 x5 x6 s7 hs7 x9 x10 x11 x12 x14 (0 : Int32) hv
def f0_292 (c_b39_size : Int32) (v_b81 : List Int32) (v_b121 : List Int32) (x0 : Int32) (x2 : Int32) (x9 : Int32) (x10 : Int32) (x11 : Int32) (x12 : Int32) (t0 : Int32) : Option (Int32) := (if t0 = (0 : Int32) then (f0_395 c_b39_size v_b81 v_b121 x0 x2 x10 x12) else ((f13_0 v_b121 x9 (0 : Int32) x11).bind fun rr24 => (if rr24 = (0 : Int32) then (f0_395 c_b39_size v_b81 v_b121 x0 x2 x10 x12) else ((f13_0 v_b121 x9 (1 : Int32) x11).bind fun rr25 => (if rr25 = (0 : Int32) then (f0_395 c_b39_size v_b81 v_b121 x0 x2 x10 x12) else ((f13_0 v_b121 x9 (2 : Int32) x11).bind fun rr26 => (if rr26 = (0 : Int32) then (f0_395 c_b39_size v_b81 v_b121 x0 x2 x10 x12) else ((f13_0 v_b121 x9 (3 : Int32) x11).bind fun rr27 => (if rr27 = (0 : Int32) then (f0_395 c_b39_size v_b81 v_b121 x0 x2 x10 x12) else ((f13_0 v_b121 x9 (4 : Int32) x11).bind fun rr28 => (if rr28 = (0 : Int32) then (f0_395 c_b39_size v_b81 v_b121 x0 x2 x10 x12) else ((f13_0 v_b121 x9 (5 : Int32) x11).bind fun rr29 => (if rr29 = (0 : Int32) then (f0_395 c_b39_size v_b81 v_b121 x0 x2 x10 x12) else ((f13_0 v_b121 x9 (6 : Int32) x11).bind fun rr30 => (if rr30 = (0 : Int32) then (f0_395 c_b39_size v_b81 v_b121 x0 x2 x10 x12) else (f0_396 c_b39_size v_b81 v_b121 x0 x2 x10 x12 (1 : Int32)))))))))))))))))
set_option maxRecDepth 65536 in
set_option maxHeartbeats 40000000 in
theorem b0_292 {p : Program} {l : Launch} {e : Env} {s : State} {m : MethodId} {args : Array Value} {below : List Frame} {meth : Method} {c : Code} {Z : State} {a0 : Array Value} {h0 : Heap} {n0 : Nat} {P : Option Value → Heap → List Loc → Prop} (hw : ∀ d ∈ tables_1, d.before a0 Z = true) (C : own_Ctx p s m meth c Z x code maxLocals ret) (Z0 : n0 ≤ h0.size)   (rr : Int32) (hP : ∀ v h L, Fr n0 L → Keep h0 h [] → E0 Z h0  rr v h → P v h L)
    {T : State} {locs : List Loc} {h : Heap} {b20 : Nat} {b39 : Nat} {b81 : Nat} {b121 : Nat} {v_b20 : List Int32} {c_b39_size : Int32} {v_b81 : List Int32} {v_b121 : List Int32} (X : Stand p l e room_1 s m args below meth c T locs 9 1617) (e0 : T.heap = h) (N : Fr n0 locs) (K : Keep h0 h []) (o_b20_b39 : b20 < b39) (o_b39_b81 : b39 < b81) (o_b81_b121 : b81 < b121) (g_b20 : n0 ≤ b20) (z_b20 : h0.size ≤ b20) (V_b20 : own_AI Z h b20 .byte v_b20) (E_b39 : Exa Z h b39 "com/example/objwire/objwire/ndr/NdrWriter") (F_b39_data : Fld Z h b39 "com/example/objwire/objwire/ndr/NdrWriter" "data" "[B" (.ref b81)) (F_b39_size : Fld Z h b39 "com/example/objwire/objwire/ndr/NdrWriter" "size" "I" (.int c_b39_size)) (V_b81 : own_AI Z h b81 .byte v_b81) (V_b121 : own_AI Z h b121 .byte v_b121) (x0 : Int32) (x1 : Int32) (x2 : Int32) (x3 : Int32) (x4 : Int32) (x5 : Int32) (x6 : Int32) (s7 : Slot) (hs7 : One s7) (x9 : Int32) (x10 : Int32) (x11 : Int32) (x12 : Int32) (x14 : Int32) (t0 : Int32) (hv : f0_292 c_b39_size v_b81 v_b121 x0 x2 x9 x10 x11 x12 t0 = some rr) :
    own_WP p e below (own_Q s P room_1.cells room_1.slots) T (mkF m 292 #[.val (.int x0), .val (.int x1), .val (.int x2), .val (.int x3), .val (.int x4), .val (.int x5), .val (.int x6), s7, .val (.ref b39), .val (.int x9), .val (.int x10), .val (.int x11), .val (.int x12), .val (.ref b121), .val (.int x14), .unset] [(.int t0)]) := by
  obtain ⟨hx, hZ, hby, hml, hown, hnm, hret, hlk⟩ := id C
  replace hown : s.vm.findClass "com/example/objwire/objwire/ndr/NdrWriterToByteArrayPinLaw" = some m.cls := hown
  unfold f0_292 at hv
  show own_WP p e below _ T (mkF m 292 #[.val (.int x0), .val (.int x1), .val (.int x2), .val (.int x3), .val (.int x4), .val (.int x5), .val (.int x6), s7, .val (.ref b39), .val (.int x9), .val (.int x10), .val (.int x11), .val (.int x12), .val (.ref b121), .val (.int x14), .unset] [(.int t0)])
  refine own_go (fun _ => XS.istore X.here hx rfl (hb hby at_292) rfl (l' := #[.val (.int x0), .val (.int x1), .val (.int x2), .val (.int x3), .val (.int x4), .val (.int x5), .val (.int x6), s7, .val (.ref b39), .val (.int x9), .val (.int x10), .val (.int x11), .val (.int x12), .val (.ref b121), .val (.int t0), .unset]) rfl) ?_
  show own_WP p e below _ T (mkF m 294 #[.val (.int x0), .val (.int x1), .val (.int x2), .val (.int x3), .val (.int x4), .val (.int x5), .val (.int x6), s7, .val (.ref b39), .val (.int x9), .val (.int x10), .val (.int x11), .val (.int x12), .val (.ref b121), .val (.int t0), .unset] [])
  refine own_go (fun _ => XS.iload X.here hx rfl (hb hby at_294) rfl) ?_
  show own_WP p e below _ T (mkF m 296 #[.val (.int x0), .val (.int x1), .val (.int x2), .val (.int x3), .val (.int x4), .val (.int x5), .val (.int x6), s7, .val (.ref b39), .val (.int x9), .val (.int x10), .val (.int x11), .val (.int x12), .val (.ref b121), .val (.int t0), .unset] [(.int t0)])
  by_cases h296 : t0 = (0 : Int32)
  · replace hv := (if_pos h296).symm.trans hv
    refine own_go (fun _ => XS.ifYes X.here hx rfl (pc0 := 296) (pc' := 395) rfl (hb hby at_296) rfl (XT.i0_eq_t h296) (by decide) (by decide)) ?_
    exact b0_395 hw C Z0 rr hP X e0 N K o_b20_b39 o_b39_b81 o_b81_b121 g_b20 z_b20 V_b20 E_b39 F_b39_data F_b39_size V_b81 V_b121 x0 x1 x2 x3 x4 x5 x6 s7 hs7 x9 x10 x11 x12 t0 hv
  · replace hv := (if_neg h296).symm.trans hv
    refine own_go (fun _ => XS.ifNo X.here hx rfl (hb hby at_296) rfl (XT.i0_eq_f h296)) ?_
    show own_WP p e below _ T (mkF m 299 #[.val (.int x0), .val (.int x1), .val (.int x2), .val (.int x3), .val (.int x4), .val (.int x5), .val (.int x6), s7, .val (.ref b39), .val (.int x9), .val (.int x10), .val (.int x11), .val (.int x12), .val (.ref b121), .val (.int t0), .unset] [])
    refine own_go (fun _ => XS.aload X.here hx rfl (hb hby at_299) rfl rfl) ?_
    show own_WP p e below _ T (mkF m 301 #[.val (.int x0), .val (.int x1), .val (.int x2), .val (.int x3), .val (.int x4), .val (.int x5), .val (.int x6), s7, .val (.ref b39), .val (.int x9), .val (.int x10), .val (.int x11), .val (.int x12), .val (.ref b121), .val (.int t0), .unset] [(.ref b121)])
    refine own_go (fun _ => XS.iload X.here hx rfl (hb hby at_301) rfl) ?_
    show own_WP p e below _ T (mkF m 303 #[.val (.int x0), .val (.int x1), .val (.int x2), .val (.int x3), .val (.int x4), .val (.int x5), .val (.int x6), s7, .val (.ref b39), .val (.int x9), .val (.int x10), .val (.int x11), .val (.int x12), .val (.ref b121), .val (.int t0), .unset] [(.int x9), (.ref b121)])
    refine own_go (fun _ => XS.iconst X.here hx rfl (hb hby at_303)) ?_
    show own_WP p e below _ T (mkF m 304 #[.val (.int x0), .val (.int x1), .val (.int x2), .val (.int x3), .val (.int x4), .val (.int x5), .val (.int x6), s7, .val (.ref b39), .val (.int x9), .val (.int x10), .val (.int x11), .val (.int x12), .val (.ref b121), .val (.int t0), .unset] [(.int (0 : Int32)), (.int x9), (.ref b121)])
    refine own_go (fun _ => XS.iload X.here hx rfl (hb hby at_304) rfl) ?_
    show own_WP p e below _ T (mkF m 306 #[.val (.int x0), .val (.int x1), .val (.int x2), .val (.int x3), .val (.int x4), .val (.int x5), .val (.int x6), s7, .val (.ref b39), .val (.int x9), .val (.int x10), .val (.int x11), .val (.int x12), .val (.ref b121), .val (.int t0), .unset] [(.int x11), (.int (0 : Int32)), (.int x9), (.ref b121)])
    obtain ⟨rr24, hf24, hv⟩ := own_bind hv
    obtain ⟨T24, v24, L24, X24, ⟨N24, K24, Q24⟩, st24⟩ := own_callS X C (argsL := [(.ref b121), (.int x9), (.int (0 : Int32)), (.int x11)]) (rm13 l Z a0 hw n0 h (by have q := K.1; omega) (by omega) V_b121 x9 (0 : Int32) x11 rr24 hf24) (hw _ (List.mem_of_getElem? (i := 66) rfl)) (hw _ (List.mem_of_getElem? (i := 67) rfl)) (hw _ (List.mem_of_getElem? (i := 68) rfl)) (hw _ (List.mem_of_getElem? (i := 69) rfl)) (by decide) e0 (W := 0) (pc := 306) (Ls := #[.val (.int x0), .val (.int x1), .val (.int x2), .val (.int x3), .val (.int x4), .val (.int x5), .val (.int x6), s7, .val (.ref b39), .val (.int x9), .val (.int x10), .val (.int x11), .val (.int x12), .val (.ref b121), .val (.int t0), .unset]) rfl (lenOf pd13 rfl) (rest := []) (stk := [(.int x11), (.int (0 : Int32)), (.int x9), (.ref b121)]) rfl (Nat.le_of_ble_eq_true rfl) (hb hby at_306) (by decide) (by decide) (by decide) (by decide)
    replace N := Fr.app N N24
    replace V_b20 := V_b20.keep K24 nin0
    replace E_b39 := E_b39.keep K24
    replace F_b39_data := F_b39_data.keep K24 nin0
    replace F_b39_size := F_b39_size.keep K24 nin0
    replace V_b81 := V_b81.keep K24 nin0
    replace V_b121 := V_b121.keep K24 nin0
    obtain ⟨rfl⟩ := Q24
    replace K := K.trans K24 all0
    refine own_go st24 ?_
    show own_WP p e below _ T24 (mkF m 309 #[.val (.int x0), .val (.int x1), .val (.int x2), .val (.int x3), .val (.int x4), .val (.int x5), .val (.int x6), s7, .val (.ref b39), .val (.int x9), .val (.int x10), .val (.int x11), .val (.int x12), .val (.ref b121), .val (.int t0), .unset] [(.int rr24)])
    by_cases h309 : rr24 = (0 : Int32)
    · replace hv := (if_pos h309).symm.trans hv
      refine own_go (fun _ => XS.ifYes X24.here hx rfl (pc0 := 309) (pc' := 395) rfl (hb hby at_309) rfl (XT.i0_eq_t h309) (by decide) (by decide)) ?_
      exact b0_395 hw C Z0 rr hP X24 (rfl : T24.heap = T24.heap) N K o_b20_b39 o_b39_b81 o_b81_b121 g_b20 z_b20 V_b20 E_b39 F_b39_data F_b39_size V_b81 V_b121 x0 x1 x2 x3 x4 x5 x6 s7 hs7 x9 x10 x11 x12 t0 hv
    · replace hv := (if_neg h309).symm.trans hv
      refine own_go (fun _ => XS.ifNo X24.here hx rfl (hb hby at_309) rfl (XT.i0_eq_f h309)) ?_
      show own_WP p e below _ T24 (mkF m 312 #[.val (.int x0), .val (.int x1), .val (.int x2), .val (.int x3), .val (.int x4), .val (.int x5), .val (.int x6), s7, .val (.ref b39), .val (.int x9), .val (.int x10), .val (.int x11), .val (.int x12), .val (.ref b121), .val (.int t0), .unset] [])
      refine own_go (fun _ => XS.aload X24.here hx rfl (hb hby at_312) rfl rfl) ?_
      show own_WP p e below _ T24 (mkF m 314 #[.val (.int x0), .val (.int x1), .val (.int x2), .val (.int x3), .val (.int x4), .val (.int x5), .val (.int x6), s7, .val (.ref b39), .val (.int x9), .val (.int x10), .val (.int x11), .val (.int x12), .val (.ref b121), .val (.int t0), .unset] [(.ref b121)])
      refine own_go (fun _ => XS.iload X24.here hx rfl (hb hby at_314) rfl) ?_
      show own_WP p e below _ T24 (mkF m 316 #[.val (.int x0), .val (.int x1), .val (.int x2), .val (.int x3), .val (.int x4), .val (.int x5), .val (.int x6), s7, .val (.ref b39), .val (.int x9), .val (.int x10), .val (.int x11), .val (.int x12), .val (.ref b121), .val (.int t0), .unset] [(.int x9), (.ref b121)])
      refine own_go (fun _ => XS.iconst X24.here hx rfl (hb hby at_316)) ?_
      show own_WP p e below _ T24 (mkF m 317 #[.val (.int x0), .val (.int x1), .val (.int x2), .val (.int x3), .val (.int x4), .val (.int x5), .val (.int x6), s7, .val (.ref b39), .val (.int x9), .val (.int x10), .val (.int x11), .val (.int x12), .val (.ref b121), .val (.int t0), .unset] [(.int (1 : Int32)), (.int x9), (.ref b121)])
      refine own_go (fun _ => XS.iload X24.here hx rfl (hb hby at_317) rfl) ?_
      show own_WP p e below _ T24 (mkF m 319 #[.val (.int x0), .val (.int x1), .val (.int x2), .val (.int x3), .val (.int x4), .val (.int x5), .val (.int x6), s7, .val (.ref b39), .val (.int x9), .val (.int x10), .val (.int x11), .val (.int x12), .val (.ref b121), .val (.int t0), .unset] [(.int x11), (.int (1 : Int32)), (.int x9), (.ref b121)])
      obtain ⟨rr25, hf25, hv⟩ := own_bind hv
      obtain ⟨T25, v25, L25, X25, ⟨N25, K25, Q25⟩, st25⟩ := own_callS X24 C (argsL := [(.ref b121), (.int x9), (.int (1 : Int32)), (.int x11)]) (rm13 l Z a0 hw n0 T24.heap (by have q := K.1; omega) (by omega) V_b121 x9 (1 : Int32) x11 rr25 hf25) (hw _ (List.mem_of_getElem? (i := 66) rfl)) (hw _ (List.mem_of_getElem? (i := 67) rfl)) (hw _ (List.mem_of_getElem? (i := 68) rfl)) (hw _ (List.mem_of_getElem? (i := 69) rfl)) (by decide) (rfl : T24.heap = T24.heap) (W := 0) (pc := 319) (Ls := #[.val (.int x0), .val (.int x1), .val (.int x2), .val (.int x3), .val (.int x4), .val (.int x5), .val (.int x6), s7, .val (.ref b39), .val (.int x9), .val (.int x10), .val (.int x11), .val (.int x12), .val (.ref b121), .val (.int t0), .unset]) rfl (lenOf pd13 rfl) (rest := []) (stk := [(.int x11), (.int (1 : Int32)), (.int x9), (.ref b121)]) rfl (Nat.le_of_ble_eq_true rfl) (hb hby at_319) (by decide) (by decide) (by decide) (by decide)
      replace N := Fr.app N N25
      replace V_b20 := V_b20.keep K25 nin0
      replace E_b39 := E_b39.keep K25
      replace F_b39_data := F_b39_data.keep K25 nin0
      replace F_b39_size := F_b39_size.keep K25 nin0
      replace V_b81 := V_b81.keep K25 nin0
      replace V_b121 := V_b121.keep K25 nin0
      obtain ⟨rfl⟩ := Q25
      replace K := K.trans K25 all0
      refine own_go st25 ?_
      show own_WP p e below _ T25 (mkF m 322 #[.val (.int x0), .val (.int x1), .val (.int x2), .val (.int x3), .val (.int x4), .val (.int x5), .val (.int x6), s7, .val (.ref b39), .val (.int x9), .val (.int x10), .val (.int x11), .val (.int x12), .val (.ref b121), .val (.int t0), .unset] [(.int rr25)])
      by_cases h322 : rr25 = (0 : Int32)
      · replace hv := (if_pos h322).symm.trans hv
        refine own_go (fun _ => XS.ifYes X25.here hx rfl (pc0 := 322) (pc' := 395) rfl (hb hby at_322) rfl (XT.i0_eq_t h322) (by decide) (by decide)) ?_
        exact b0_395 hw C Z0 rr hP X25 (rfl : T25.heap = T25.heap) N K o_b20_b39 o_b39_b81 o_b81_b121 g_b20 z_b20 V_b20 E_b39 F_b39_data F_b39_size V_b81 V_b121 x0 x1 x2 x3 x4 x5 x6 s7 hs7 x9 x10 x11 x12 t0 hv
      · replace hv := (if_neg h322).symm.trans hv
        refine own_go (fun _ => XS.ifNo X25.here hx rfl (hb hby at_322) rfl (XT.i0_eq_f h322)) ?_
        show own_WP p e below _ T25 (mkF m 325 #[.val (.int x0), .val (.int x1), .val (.int x2), .val (.int x3), .val (.int x4), .val (.int x5), .val (.int x6), s7, .val (.ref b39), .val (.int x9), .val (.int x10), .val (.int x11), .val (.int x12), .val (.ref b121), .val (.int t0), .unset] [])
        refine own_go (fun _ => XS.aload X25.here hx rfl (hb hby at_325) rfl rfl) ?_
        show own_WP p e below _ T25 (mkF m 327 #[.val (.int x0), .val (.int x1), .val (.int x2), .val (.int x3), .val (.int x4), .val (.int x5), .val (.int x6), s7, .val (.ref b39), .val (.int x9), .val (.int x10), .val (.int x11), .val (.int x12), .val (.ref b121), .val (.int t0), .unset] [(.ref b121)])
        refine own_go (fun _ => XS.iload X25.here hx rfl (hb hby at_327) rfl) ?_
        show own_WP p e below _ T25 (mkF m 329 #[.val (.int x0), .val (.int x1), .val (.int x2), .val (.int x3), .val (.int x4), .val (.int x5), .val (.int x6), s7, .val (.ref b39), .val (.int x9), .val (.int x10), .val (.int x11), .val (.int x12), .val (.ref b121), .val (.int t0), .unset] [(.int x9), (.ref b121)])
        refine own_go (fun _ => XS.iconst X25.here hx rfl (hb hby at_329)) ?_
        show own_WP p e below _ T25 (mkF m 330 #[.val (.int x0), .val (.int x1), .val (.int x2), .val (.int x3), .val (.int x4), .val (.int x5), .val (.int x6), s7, .val (.ref b39), .val (.int x9), .val (.int x10), .val (.int x11), .val (.int x12), .val (.ref b121), .val (.int t0), .unset] [(.int (2 : Int32)), (.int x9), (.ref b121)])
        refine own_go (fun _ => XS.iload X25.here hx rfl (hb hby at_330) rfl) ?_
        show own_WP p e below _ T25 (mkF m 332 #[.val (.int x0), .val (.int x1), .val (.int x2), .val (.int x3), .val (.int x4), .val (.int x5), .val (.int x6), s7, .val (.ref b39), .val (.int x9), .val (.int x10), .val (.int x11), .val (.int x12), .val (.ref b121), .val (.int t0), .unset] [(.int x11), (.int (2 : Int32)), (.int x9), (.ref b121)])
        obtain ⟨rr26, hf26, hv⟩ := own_bind hv
        obtain ⟨T26, v26, L26, X26, ⟨N26, K26, Q26⟩, st26⟩ := own_callS X25 C (argsL := [(.ref b121), (.int x9), (.int (2 : Int32)), (.int x11)]) (rm13 l Z a0 hw n0 T25.heap (by have q := K.1; omega) (by omega) V_b121 x9 (2 : Int32) x11 rr26 hf26) (hw _ (List.mem_of_getElem? (i := 66) rfl)) (hw _ (List.mem_of_getElem? (i := 67) rfl)) (hw _ (List.mem_of_getElem? (i := 68) rfl)) (hw _ (List.mem_of_getElem? (i := 69) rfl)) (by decide) (rfl : T25.heap = T25.heap) (W := 0) (pc := 332) (Ls := #[.val (.int x0), .val (.int x1), .val (.int x2), .val (.int x3), .val (.int x4), .val (.int x5), .val (.int x6), s7, .val (.ref b39), .val (.int x9), .val (.int x10), .val (.int x11), .val (.int x12), .val (.ref b121), .val (.int t0), .unset]) rfl (lenOf pd13 rfl) (rest := []) (stk := [(.int x11), (.int (2 : Int32)), (.int x9), (.ref b121)]) rfl (Nat.le_of_ble_eq_true rfl) (hb hby at_332) (by decide) (by decide) (by decide) (by decide)
        replace N := Fr.app N N26
        replace V_b20 := V_b20.keep K26 nin0
        replace E_b39 := E_b39.keep K26
        replace F_b39_data := F_b39_data.keep K26 nin0
        replace F_b39_size := F_b39_size.keep K26 nin0
        replace V_b81 := V_b81.keep K26 nin0
        replace V_b121 := V_b121.keep K26 nin0
        obtain ⟨rfl⟩ := Q26
        replace K := K.trans K26 all0
        refine own_go st26 ?_
        show own_WP p e below _ T26 (mkF m 335 #[.val (.int x0), .val (.int x1), .val (.int x2), .val (.int x3), .val (.int x4), .val (.int x5), .val (.int x6), s7, .val (.ref b39), .val (.int x9), .val (.int x10), .val (.int x11), .val (.int x12), .val (.ref b121), .val (.int t0), .unset] [(.int rr26)])
        by_cases h335 : rr26 = (0 : Int32)
        · replace hv := (if_pos h335).symm.trans hv
          refine own_go (fun _ => XS.ifYes X26.here hx rfl (pc0 := 335) (pc' := 395) rfl (hb hby at_335) rfl (XT.i0_eq_t h335) (by decide) (by decide)) ?_
          exact b0_395 hw C Z0 rr hP X26 (rfl : T26.heap = T26.heap) N K o_b20_b39 o_b39_b81 o_b81_b121 g_b20 z_b20 V_b20 E_b39 F_b39_data F_b39_size V_b81 V_b121 x0 x1 x2 x3 x4 x5 x6 s7 hs7 x9 x10 x11 x12 t0 hv
        · replace hv := (if_neg h335).symm.trans hv
          refine own_go (fun _ => XS.ifNo X26.here hx rfl (hb hby at_335) rfl (XT.i0_eq_f h335)) ?_
          show own_WP p e below _ T26 (mkF m 338 #[.val (.int x0), .val (.int x1), .val (.int x2), .val (.int x3), .val (.int x4), .val (.int x5), .val (.int x6), s7, .val (.ref b39), .val (.int x9), .val (.int x10), .val (.int x11), .val (.int x12), .val (.ref b121), .val (.int t0), .unset] [])
          refine own_go (fun _ => XS.aload X26.here hx rfl (hb hby at_338) rfl rfl) ?_
          show own_WP p e below _ T26 (mkF m 340 #[.val (.int x0), .val (.int x1), .val (.int x2), .val (.int x3), .val (.int x4), .val (.int x5), .val (.int x6), s7, .val (.ref b39), .val (.int x9), .val (.int x10), .val (.int x11), .val (.int x12), .val (.ref b121), .val (.int t0), .unset] [(.ref b121)])
          refine own_go (fun _ => XS.iload X26.here hx rfl (hb hby at_340) rfl) ?_
          show own_WP p e below _ T26 (mkF m 342 #[.val (.int x0), .val (.int x1), .val (.int x2), .val (.int x3), .val (.int x4), .val (.int x5), .val (.int x6), s7, .val (.ref b39), .val (.int x9), .val (.int x10), .val (.int x11), .val (.int x12), .val (.ref b121), .val (.int t0), .unset] [(.int x9), (.ref b121)])
          refine own_go (fun _ => XS.iconst X26.here hx rfl (hb hby at_342)) ?_
          show own_WP p e below _ T26 (mkF m 343 #[.val (.int x0), .val (.int x1), .val (.int x2), .val (.int x3), .val (.int x4), .val (.int x5), .val (.int x6), s7, .val (.ref b39), .val (.int x9), .val (.int x10), .val (.int x11), .val (.int x12), .val (.ref b121), .val (.int t0), .unset] [(.int (3 : Int32)), (.int x9), (.ref b121)])
          refine own_go (fun _ => XS.iload X26.here hx rfl (hb hby at_343) rfl) ?_
          show own_WP p e below _ T26 (mkF m 345 #[.val (.int x0), .val (.int x1), .val (.int x2), .val (.int x3), .val (.int x4), .val (.int x5), .val (.int x6), s7, .val (.ref b39), .val (.int x9), .val (.int x10), .val (.int x11), .val (.int x12), .val (.ref b121), .val (.int t0), .unset] [(.int x11), (.int (3 : Int32)), (.int x9), (.ref b121)])
          obtain ⟨rr27, hf27, hv⟩ := own_bind hv
          obtain ⟨T27, v27, L27, X27, ⟨N27, K27, Q27⟩, st27⟩ := own_callS X26 C (argsL := [(.ref b121), (.int x9), (.int (3 : Int32)), (.int x11)]) (rm13 l Z a0 hw n0 T26.heap (by have q := K.1; omega) (by omega) V_b121 x9 (3 : Int32) x11 rr27 hf27) (hw _ (List.mem_of_getElem? (i := 66) rfl)) (hw _ (List.mem_of_getElem? (i := 67) rfl)) (hw _ (List.mem_of_getElem? (i := 68) rfl)) (hw _ (List.mem_of_getElem? (i := 69) rfl)) (by decide) (rfl : T26.heap = T26.heap) (W := 0) (pc := 345) (Ls := #[.val (.int x0), .val (.int x1), .val (.int x2), .val (.int x3), .val (.int x4), .val (.int x5), .val (.int x6), s7, .val (.ref b39), .val (.int x9), .val (.int x10), .val (.int x11), .val (.int x12), .val (.ref b121), .val (.int t0), .unset]) rfl (lenOf pd13 rfl) (rest := []) (stk := [(.int x11), (.int (3 : Int32)), (.int x9), (.ref b121)]) rfl (Nat.le_of_ble_eq_true rfl) (hb hby at_345) (by decide) (by decide) (by decide) (by decide)
          replace N := Fr.app N N27
          replace V_b20 := V_b20.keep K27 nin0
          replace E_b39 := E_b39.keep K27
          replace F_b39_data := F_b39_data.keep K27 nin0
          replace F_b39_size := F_b39_size.keep K27 nin0
          replace V_b81 := V_b81.keep K27 nin0
          replace V_b121 := V_b121.keep K27 nin0
          obtain ⟨rfl⟩ := Q27
          replace K := K.trans K27 all0
          refine own_go st27 ?_
          show own_WP p e below _ T27 (mkF m 348 #[.val (.int x0), .val (.int x1), .val (.int x2), .val (.int x3), .val (.int x4), .val (.int x5), .val (.int x6), s7, .val (.ref b39), .val (.int x9), .val (.int x10), .val (.int x11), .val (.int x12), .val (.ref b121), .val (.int t0), .unset] [(.int rr27)])
          by_cases h348 : rr27 = (0 : Int32)
          · replace hv := (if_pos h348).symm.trans hv
            refine own_go (fun _ => XS.ifYes X27.here hx rfl (pc0 := 348) (pc' := 395) rfl (hb hby at_348) rfl (XT.i0_eq_t h348) (by decide) (by decide)) ?_
            exact b0_395 hw C Z0 rr hP X27 (rfl : T27.heap = T27.heap) N K o_b20_b39 o_b39_b81 o_b81_b121 g_b20 z_b20 V_b20 E_b39 F_b39_data F_b39_size V_b81 V_b121 x0 x1 x2 x3 x4 x5 x6 s7 hs7 x9 x10 x11 x12 t0 hv
          · replace hv := (if_neg h348).symm.trans hv
            refine own_go (fun _ => XS.ifNo X27.here hx rfl (hb hby at_348) rfl (XT.i0_eq_f h348)) ?_
            show own_WP p e below _ T27 (mkF m 351 #[.val (.int x0), .val (.int x1), .val (.int x2), .val (.int x3), .val (.int x4), .val (.int x5), .val (.int x6), s7, .val (.ref b39), .val (.int x9), .val (.int x10), .val (.int x11), .val (.int x12), .val (.ref b121), .val (.int t0), .unset] [])
            refine own_go (fun _ => XS.aload X27.here hx rfl (hb hby at_351) rfl rfl) ?_
            show own_WP p e below _ T27 (mkF m 353 #[.val (.int x0), .val (.int x1), .val (.int x2), .val (.int x3), .val (.int x4), .val (.int x5), .val (.int x6), s7, .val (.ref b39), .val (.int x9), .val (.int x10), .val (.int x11), .val (.int x12), .val (.ref b121), .val (.int t0), .unset] [(.ref b121)])
            refine own_go (fun _ => XS.iload X27.here hx rfl (hb hby at_353) rfl) ?_
            show own_WP p e below _ T27 (mkF m 355 #[.val (.int x0), .val (.int x1), .val (.int x2), .val (.int x3), .val (.int x4), .val (.int x5), .val (.int x6), s7, .val (.ref b39), .val (.int x9), .val (.int x10), .val (.int x11), .val (.int x12), .val (.ref b121), .val (.int t0), .unset] [(.int x9), (.ref b121)])
            refine own_go (fun _ => XS.iconst X27.here hx rfl (hb hby at_355)) ?_
            show own_WP p e below _ T27 (mkF m 356 #[.val (.int x0), .val (.int x1), .val (.int x2), .val (.int x3), .val (.int x4), .val (.int x5), .val (.int x6), s7, .val (.ref b39), .val (.int x9), .val (.int x10), .val (.int x11), .val (.int x12), .val (.ref b121), .val (.int t0), .unset] [(.int (4 : Int32)), (.int x9), (.ref b121)])
            refine own_go (fun _ => XS.iload X27.here hx rfl (hb hby at_356) rfl) ?_
            show own_WP p e below _ T27 (mkF m 358 #[.val (.int x0), .val (.int x1), .val (.int x2), .val (.int x3), .val (.int x4), .val (.int x5), .val (.int x6), s7, .val (.ref b39), .val (.int x9), .val (.int x10), .val (.int x11), .val (.int x12), .val (.ref b121), .val (.int t0), .unset] [(.int x11), (.int (4 : Int32)), (.int x9), (.ref b121)])
            obtain ⟨rr28, hf28, hv⟩ := own_bind hv
            obtain ⟨T28, v28, L28, X28, ⟨N28, K28, Q28⟩, st28⟩ := own_callS X27 C (argsL := [(.ref b121), (.int x9), (.int (4 : Int32)), (.int x11)]) (rm13 l Z a0 hw n0 T27.heap (by have q := K.1; omega) (by omega) V_b121 x9 (4 : Int32) x11 rr28 hf28) (hw _ (List.mem_of_getElem? (i := 66) rfl)) (hw _ (List.mem_of_getElem? (i := 67) rfl)) (hw _ (List.mem_of_getElem? (i := 68) rfl)) (hw _ (List.mem_of_getElem? (i := 69) rfl)) (by decide) (rfl : T27.heap = T27.heap) (W := 0) (pc := 358) (Ls := #[.val (.int x0), .val (.int x1), .val (.int x2), .val (.int x3), .val (.int x4), .val (.int x5), .val (.int x6), s7, .val (.ref b39), .val (.int x9), .val (.int x10), .val (.int x11), .val (.int x12), .val (.ref b121), .val (.int t0), .unset]) rfl (lenOf pd13 rfl) (rest := []) (stk := [(.int x11), (.int (4 : Int32)), (.int x9), (.ref b121)]) rfl (Nat.le_of_ble_eq_true rfl) (hb hby at_358) (by decide) (by decide) (by decide) (by decide)
            replace N := Fr.app N N28
            replace V_b20 := V_b20.keep K28 nin0
            replace E_b39 := E_b39.keep K28
            replace F_b39_data := F_b39_data.keep K28 nin0
            replace F_b39_size := F_b39_size.keep K28 nin0
            replace V_b81 := V_b81.keep K28 nin0
            replace V_b121 := V_b121.keep K28 nin0
            obtain ⟨rfl⟩ := Q28
            replace K := K.trans K28 all0
            refine own_go st28 ?_
            show own_WP p e below _ T28 (mkF m 361 #[.val (.int x0), .val (.int x1), .val (.int x2), .val (.int x3), .val (.int x4), .val (.int x5), .val (.int x6), s7, .val (.ref b39), .val (.int x9), .val (.int x10), .val (.int x11), .val (.int x12), .val (.ref b121), .val (.int t0), .unset] [(.int rr28)])
            by_cases h361 : rr28 = (0 : Int32)
            · replace hv := (if_pos h361).symm.trans hv
              refine own_go (fun _ => XS.ifYes X28.here hx rfl (pc0 := 361) (pc' := 395) rfl (hb hby at_361) rfl (XT.i0_eq_t h361) (by decide) (by decide)) ?_
              exact b0_395 hw C Z0 rr hP X28 (rfl : T28.heap = T28.heap) N K o_b20_b39 o_b39_b81 o_b81_b121 g_b20 z_b20 V_b20 E_b39 F_b39_data F_b39_size V_b81 V_b121 x0 x1 x2 x3 x4 x5 x6 s7 hs7 x9 x10 x11 x12 t0 hv
            · replace hv := (if_neg h361).symm.trans hv
              refine own_go (fun _ => XS.ifNo X28.here hx rfl (hb hby at_361) rfl (XT.i0_eq_f h361)) ?_
              show own_WP p e below _ T28 (mkF m 364 #[.val (.int x0), .val (.int x1), .val (.int x2), .val (.int x3), .val (.int x4), .val (.int x5), .val (.int x6), s7, .val (.ref b39), .val (.int x9), .val (.int x10), .val (.int x11), .val (.int x12), .val (.ref b121), .val (.int t0), .unset] [])
              refine own_go (fun _ => XS.aload X28.here hx rfl (hb hby at_364) rfl rfl) ?_
              show own_WP p e below _ T28 (mkF m 366 #[.val (.int x0), .val (.int x1), .val (.int x2), .val (.int x3), .val (.int x4), .val (.int x5), .val (.int x6), s7, .val (.ref b39), .val (.int x9), .val (.int x10), .val (.int x11), .val (.int x12), .val (.ref b121), .val (.int t0), .unset] [(.ref b121)])
              refine own_go (fun _ => XS.iload X28.here hx rfl (hb hby at_366) rfl) ?_
              show own_WP p e below _ T28 (mkF m 368 #[.val (.int x0), .val (.int x1), .val (.int x2), .val (.int x3), .val (.int x4), .val (.int x5), .val (.int x6), s7, .val (.ref b39), .val (.int x9), .val (.int x10), .val (.int x11), .val (.int x12), .val (.ref b121), .val (.int t0), .unset] [(.int x9), (.ref b121)])
              refine own_go (fun _ => XS.iconst X28.here hx rfl (hb hby at_368)) ?_
              show own_WP p e below _ T28 (mkF m 369 #[.val (.int x0), .val (.int x1), .val (.int x2), .val (.int x3), .val (.int x4), .val (.int x5), .val (.int x6), s7, .val (.ref b39), .val (.int x9), .val (.int x10), .val (.int x11), .val (.int x12), .val (.ref b121), .val (.int t0), .unset] [(.int (5 : Int32)), (.int x9), (.ref b121)])
              refine own_go (fun _ => XS.iload X28.here hx rfl (hb hby at_369) rfl) ?_
              show own_WP p e below _ T28 (mkF m 371 #[.val (.int x0), .val (.int x1), .val (.int x2), .val (.int x3), .val (.int x4), .val (.int x5), .val (.int x6), s7, .val (.ref b39), .val (.int x9), .val (.int x10), .val (.int x11), .val (.int x12), .val (.ref b121), .val (.int t0), .unset] [(.int x11), (.int (5 : Int32)), (.int x9), (.ref b121)])
              obtain ⟨rr29, hf29, hv⟩ := own_bind hv
              obtain ⟨T29, v29, L29, X29, ⟨N29, K29, Q29⟩, st29⟩ := own_callS X28 C (argsL := [(.ref b121), (.int x9), (.int (5 : Int32)), (.int x11)]) (rm13 l Z a0 hw n0 T28.heap (by have q := K.1; omega) (by omega) V_b121 x9 (5 : Int32) x11 rr29 hf29) (hw _ (List.mem_of_getElem? (i := 66) rfl)) (hw _ (List.mem_of_getElem? (i := 67) rfl)) (hw _ (List.mem_of_getElem? (i := 68) rfl)) (hw _ (List.mem_of_getElem? (i := 69) rfl)) (by decide) (rfl : T28.heap = T28.heap) (W := 0) (pc := 371) (Ls := #[.val (.int x0), .val (.int x1), .val (.int x2), .val (.int x3), .val (.int x4), .val (.int x5), .val (.int x6), s7, .val (.ref b39), .val (.int x9), .val (.int x10), .val (.int x11), .val (.int x12), .val (.ref b121), .val (.int t0), .unset]) rfl (lenOf pd13 rfl) (rest := []) (stk := [(.int x11), (.int (5 : Int32)), (.int x9), (.ref b121)]) rfl (Nat.le_of_ble_eq_true rfl) (hb hby at_371) (by decide) (by decide) (by decide) (by decide)
              replace N := Fr.app N N29
              replace V_b20 := V_b20.keep K29 nin0
              replace E_b39 := E_b39.keep K29
              replace F_b39_data := F_b39_data.keep K29 nin0
              replace F_b39_size := F_b39_size.keep K29 nin0
              replace V_b81 := V_b81.keep K29 nin0
              replace V_b121 := V_b121.keep K29 nin0
              obtain ⟨rfl⟩ := Q29
              replace K := K.trans K29 all0
              refine own_go st29 ?_
              show own_WP p e below _ T29 (mkF m 374 #[.val (.int x0), .val (.int x1), .val (.int x2), .val (.int x3), .val (.int x4), .val (.int x5), .val (.int x6), s7, .val (.ref b39), .val (.int x9), .val (.int x10), .val (.int x11), .val (.int x12), .val (.ref b121), .val (.int t0), .unset] [(.int rr29)])
              by_cases h374 : rr29 = (0 : Int32)
              · replace hv := (if_pos h374).symm.trans hv
                refine own_go (fun _ => XS.ifYes X29.here hx rfl (pc0 := 374) (pc' := 395) rfl (hb hby at_374) rfl (XT.i0_eq_t h374) (by decide) (by decide)) ?_
                exact b0_395 hw C Z0 rr hP X29 (rfl : T29.heap = T29.heap) N K o_b20_b39 o_b39_b81 o_b81_b121 g_b20 z_b20 V_b20 E_b39 F_b39_data F_b39_size V_b81 V_b121 x0 x1 x2 x3 x4 x5 x6 s7 hs7 x9 x10 x11 x12 t0 hv
              · replace hv := (if_neg h374).symm.trans hv
                refine own_go (fun _ => XS.ifNo X29.here hx rfl (hb hby at_374) rfl (XT.i0_eq_f h374)) ?_
                show own_WP p e below _ T29 (mkF m 377 #[.val (.int x0), .val (.int x1), .val (.int x2), .val (.int x3), .val (.int x4), .val (.int x5), .val (.int x6), s7, .val (.ref b39), .val (.int x9), .val (.int x10), .val (.int x11), .val (.int x12), .val (.ref b121), .val (.int t0), .unset] [])
                refine own_go (fun _ => XS.aload X29.here hx rfl (hb hby at_377) rfl rfl) ?_
                show own_WP p e below _ T29 (mkF m 379 #[.val (.int x0), .val (.int x1), .val (.int x2), .val (.int x3), .val (.int x4), .val (.int x5), .val (.int x6), s7, .val (.ref b39), .val (.int x9), .val (.int x10), .val (.int x11), .val (.int x12), .val (.ref b121), .val (.int t0), .unset] [(.ref b121)])
                refine own_go (fun _ => XS.iload X29.here hx rfl (hb hby at_379) rfl) ?_
                show own_WP p e below _ T29 (mkF m 381 #[.val (.int x0), .val (.int x1), .val (.int x2), .val (.int x3), .val (.int x4), .val (.int x5), .val (.int x6), s7, .val (.ref b39), .val (.int x9), .val (.int x10), .val (.int x11), .val (.int x12), .val (.ref b121), .val (.int t0), .unset] [(.int x9), (.ref b121)])
                refine own_go (fun _ => XS.bipush X29.here hx rfl (hb hby at_381)) ?_
                show own_WP p e below _ T29 (mkF m 383 #[.val (.int x0), .val (.int x1), .val (.int x2), .val (.int x3), .val (.int x4), .val (.int x5), .val (.int x6), s7, .val (.ref b39), .val (.int x9), .val (.int x10), .val (.int x11), .val (.int x12), .val (.ref b121), .val (.int t0), .unset] [(.int (6 : Int32)), (.int x9), (.ref b121)])
                refine own_go (fun _ => XS.iload X29.here hx rfl (hb hby at_383) rfl) ?_
                show own_WP p e below _ T29 (mkF m 385 #[.val (.int x0), .val (.int x1), .val (.int x2), .val (.int x3), .val (.int x4), .val (.int x5), .val (.int x6), s7, .val (.ref b39), .val (.int x9), .val (.int x10), .val (.int x11), .val (.int x12), .val (.ref b121), .val (.int t0), .unset] [(.int x11), (.int (6 : Int32)), (.int x9), (.ref b121)])
                obtain ⟨rr30, hf30, hv⟩ := own_bind hv
                obtain ⟨T30, v30, L30, X30, ⟨N30, K30, Q30⟩, st30⟩ := own_callS X29 C (argsL := [(.ref b121), (.int x9), (.int (6 : Int32)), (.int x11)]) (rm13 l Z a0 hw n0 T29.heap (by have q := K.1; omega) (by omega) V_b121 x9 (6 : Int32) x11 rr30 hf30) (hw _ (List.mem_of_getElem? (i := 66) rfl)) (hw _ (List.mem_of_getElem? (i := 67) rfl)) (hw _ (List.mem_of_getElem? (i := 68) rfl)) (hw _ (List.mem_of_getElem? (i := 69) rfl)) (by decide) (rfl : T29.heap = T29.heap) (W := 0) (pc := 385) (Ls := #[.val (.int x0), .val (.int x1), .val (.int x2), .val (.int x3), .val (.int x4), .val (.int x5), .val (.int x6), s7, .val (.ref b39), .val (.int x9), .val (.int x10), .val (.int x11), .val (.int x12), .val (.ref b121), .val (.int t0), .unset]) rfl (lenOf pd13 rfl) (rest := []) (stk := [(.int x11), (.int (6 : Int32)), (.int x9), (.ref b121)]) rfl (Nat.le_of_ble_eq_true rfl) (hb hby at_385) (by decide) (by decide) (by decide) (by decide)
                replace N := Fr.app N N30
                replace V_b20 := V_b20.keep K30 nin0
                replace E_b39 := E_b39.keep K30
                replace F_b39_data := F_b39_data.keep K30 nin0
                replace F_b39_size := F_b39_size.keep K30 nin0
                replace V_b81 := V_b81.keep K30 nin0
                replace V_b121 := V_b121.keep K30 nin0
                obtain ⟨rfl⟩ := Q30
                replace K := K.trans K30 all0
                refine own_go st30 ?_
                show own_WP p e below _ T30 (mkF m 388 #[.val (.int x0), .val (.int x1), .val (.int x2), .val (.int x3), .val (.int x4), .val (.int x5), .val (.int x6), s7, .val (.ref b39), .val (.int x9), .val (.int x10), .val (.int x11), .val (.int x12), .val (.ref b121), .val (.int t0), .unset] [(.int rr30)])
                by_cases h388 : rr30 = (0 : Int32)
                · replace hv := (if_pos h388).symm.trans hv
                  refine own_go (fun _ => XS.ifYes X30.here hx rfl (pc0 := 388) (pc' := 395) rfl (hb hby at_388) rfl (XT.i0_eq_t h388) (by decide) (by decide)) ?_
                  exact b0_395 hw C Z0 rr hP X30 (rfl : T30.heap = T30.heap) N K o_b20_b39 o_b39_b81 o_b81_b121 g_b20 z_b20 V_b20 E_b39 F_b39_data F_b39_size V_b81 V_b121 x0 x1 x2 x3 x4 x5 x6 s7 hs7 x9 x10 x11 x12 t0 hv
                · replace hv := (if_neg h388).symm.trans hv
                  refine own_go (fun _ => XS.ifNo X30.here hx rfl (hb hby at_388) rfl (XT.i0_eq_f h388)) ?_
                  show own_WP p e below _ T30 (mkF m 391 #[.val (.int x0), .val (.int x1), .val (.int x2), .val (.int x3), .val (.int x4), .val (.int x5), .val (.int x6), s7, .val (.ref b39), .val (.int x9), .val (.int x10), .val (.int x11), .val (.int x12), .val (.ref b121), .val (.int t0), .unset] [])
                  refine own_go (fun _ => XS.iconst X30.here hx rfl (hb hby at_391)) ?_
                  show own_WP p e below _ T30 (mkF m 392 #[.val (.int x0), .val (.int x1), .val (.int x2), .val (.int x3), .val (.int x4), .val (.int x5), .val (.int x6), s7, .val (.ref b39), .val (.int x9), .val (.int x10), .val (.int x11), .val (.int x12), .val (.ref b121), .val (.int t0), .unset] [(.int (1 : Int32))])
                  refine own_go (fun _ => XS.goto X30.here hx rfl (pc0 := 392) (pc' := 396) rfl (hb hby at_392) (by decide) (by decide)) ?_
                  exact b0_396 hw C Z0 rr hP X30 (rfl : T30.heap = T30.heap) N K o_b20_b39 o_b39_b81 o_b81_b121 g_b20 z_b20 V_b20 E_b39 F_b39_data F_b39_size V_b81 V_b121 x0 x1 x2 x3 x4 x5 x6 s7 hs7 x9 x10 x11 x12 t0 (1 : Int32) hv
def f0_291 (c_b39_size : Int32) (v_b81 : List Int32) (v_b121 : List Int32) (x0 : Int32) (x2 : Int32) (x9 : Int32) (x10 : Int32) (x11 : Int32) (x12 : Int32) : Option (Int32) := (f0_292 c_b39_size v_b81 v_b121 x0 x2 x9 x10 x11 x12 (0 : Int32))
set_option maxRecDepth 65536 in
set_option maxHeartbeats 40000000 in
theorem b0_291 {p : Program} {l : Launch} {e : Env} {s : State} {m : MethodId} {args : Array Value} {below : List Frame} {meth : Method} {c : Code} {Z : State} {a0 : Array Value} {h0 : Heap} {n0 : Nat} {P : Option Value → Heap → List Loc → Prop} (hw : ∀ d ∈ tables_1, d.before a0 Z = true) (C : own_Ctx p s m meth c Z x code maxLocals ret) (Z0 : n0 ≤ h0.size)   (rr : Int32) (hP : ∀ v h L, Fr n0 L → Keep h0 h [] → E0 Z h0  rr v h → P v h L)
    {T : State} {locs : List Loc} {h : Heap} {b20 : Nat} {b39 : Nat} {b81 : Nat} {b121 : Nat} {v_b20 : List Int32} {c_b39_size : Int32} {v_b81 : List Int32} {v_b121 : List Int32} (X : Stand p l e room_1 s m args below meth c T locs 9 1617) (e0 : T.heap = h) (N : Fr n0 locs) (K : Keep h0 h []) (o_b20_b39 : b20 < b39) (o_b39_b81 : b39 < b81) (o_b81_b121 : b81 < b121) (g_b20 : n0 ≤ b20) (z_b20 : h0.size ≤ b20) (V_b20 : own_AI Z h b20 .byte v_b20) (E_b39 : Exa Z h b39 "com/example/objwire/objwire/ndr/NdrWriter") (F_b39_data : Fld Z h b39 "com/example/objwire/objwire/ndr/NdrWriter" "data" "[B" (.ref b81)) (F_b39_size : Fld Z h b39 "com/example/objwire/objwire/ndr/NdrWriter" "size" "I" (.int c_b39_size)) (V_b81 : own_AI Z h b81 .byte v_b81) (V_b121 : own_AI Z h b121 .byte v_b121) (x0 : Int32) (x1 : Int32) (x2 : Int32) (x3 : Int32) (x4 : Int32) (x5 : Int32) (x6 : Int32) (s7 : Slot) (hs7 : One s7) (x9 : Int32) (x10 : Int32) (x11 : Int32) (x12 : Int32) (x14 : Int32) (hv : f0_291 c_b39_size v_b81 v_b121 x0 x2 x9 x10 x11 x12 = some rr) :
    own_WP p e below (own_Q s P room_1.cells room_1.slots) T (mkF m 291 #[.val (.int x0), .val (.int x1), .val (.int x2), .val (.int x3), .val (.int x4), .val (.int x5), .val (.int x6), s7, .val (.ref b39), .val (.int x9), .val (.int x10), .val (.int x11), .val (.int x12), .val (.ref b121), .val (.int x14), .unset] []) := by
  obtain ⟨hx, hZ, hby, hml, hown, hnm, hret, hlk⟩ := id C
  replace hown : s.vm.findClass "com/example/objwire/objwire/ndr/NdrWriterToByteArrayPinLaw" = some m.cls := hown
  unfold f0_291 at hv
  show own_WP p e below _ T (mkF m 291 #[.val (.int x0), .val (.int x1), .val (.int x2), .val (.int x3), .val (.int x4), .val (.int x5), .val (.int x6), s7, .val (.ref b39), .val (.int x9), .val (.int x10), .val (.int x11), .val (.int x12), .val (.ref b121), .val (.int x14), .unset] [])
  refine own_go (fun _ => XS.iconst X.here hx rfl (hb hby at_291)) ?_
  exact b0_292 hw C Z0 rr hP X e0 N K o_b20_b39 o_b39_b81 o_b81_b121 g_b20 z_b20 V_b20 E_b39 F_b39_data F_b39_size V_b81 V_b121 x0 x1 x2 x3 x4 x5 x6 s7 hs7 x9 x10 x11 x12 x14 (0 : Int32) hv
def f0_225 (c_b39_size : Int32) (v_b81 : List Int32) (v_b121 : List Int32) (x0 : Int32) (x1 : Int32) (x2 : Int32) (x5 : Int32) (x9 : Int32) (x10 : Int32) (x11 : Int32) (x12 : Int32) (x14 : Int32) : Option (Int32) := (if x14 = (0 : Int32) then (f0_291 c_b39_size v_b81 v_b121 x0 x2 x9 x10 x11 x12) else ((own_get v_b121 ((1 : Int32) + x5)).bind fun w31 => (if w31 = (x1.toInt8.toInt32) then ((own_get v_b121 ((2 : Int32) + x5)).bind fun w32 => (if w32 = ((XT.ushr x1 (8 : Int32)).toInt8.toInt32) then ((own_get v_b121 ((3 : Int32) + x5)).bind fun w33 => (if w33 = ((XT.ushr x1 (16 : Int32)).toInt8.toInt32) then ((own_get v_b121 ((4 : Int32) + x5)).bind fun w34 => (if w34 = ((XT.ushr x1 (24 : Int32)).toInt8.toInt32) then (f0_292 c_b39_size v_b81 v_b121 x0 x2 x9 x10 x11 x12 (1 : Int32)) else (f0_291 c_b39_size v_b81 v_b121 x0 x2 x9 x10 x11 x12))) else (f0_291 c_b39_size v_b81 v_b121 x0 x2 x9 x10 x11 x12))) else (f0_291 c_b39_size v_b81 v_b121 x0 x2 x9 x10 x11 x12))) else (f0_291 c_b39_size v_b81 v_b121 x0 x2 x9 x10 x11 x12))))
set_option maxRecDepth 65536 in
set_option maxHeartbeats 40000000 in
theorem b0_225 {p : Program} {l : Launch} {e : Env} {s : State} {m : MethodId} {args : Array Value} {below : List Frame} {meth : Method} {c : Code} {Z : State} {a0 : Array Value} {h0 : Heap} {n0 : Nat} {P : Option Value → Heap → List Loc → Prop} (hw : ∀ d ∈ tables_1, d.before a0 Z = true) (C : own_Ctx p s m meth c Z x code maxLocals ret) (Z0 : n0 ≤ h0.size)   (rr : Int32) (hP : ∀ v h L, Fr n0 L → Keep h0 h [] → E0 Z h0  rr v h → P v h L)
    {T : State} {locs : List Loc} {h : Heap} {b20 : Nat} {b39 : Nat} {b81 : Nat} {b121 : Nat} {v_b20 : List Int32} {c_b39_size : Int32} {v_b81 : List Int32} {v_b121 : List Int32} (X : Stand p l e room_1 s m args below meth c T locs 9 1617) (e0 : T.heap = h) (N : Fr n0 locs) (K : Keep h0 h []) (o_b20_b39 : b20 < b39) (o_b39_b81 : b39 < b81) (o_b81_b121 : b81 < b121) (g_b20 : n0 ≤ b20) (z_b20 : h0.size ≤ b20) (V_b20 : own_AI Z h b20 .byte v_b20) (E_b39 : Exa Z h b39 "com/example/objwire/objwire/ndr/NdrWriter") (F_b39_data : Fld Z h b39 "com/example/objwire/objwire/ndr/NdrWriter" "data" "[B" (.ref b81)) (F_b39_size : Fld Z h b39 "com/example/objwire/objwire/ndr/NdrWriter" "size" "I" (.int c_b39_size)) (V_b81 : own_AI Z h b81 .byte v_b81) (V_b121 : own_AI Z h b121 .byte v_b121) (x0 : Int32) (x1 : Int32) (x2 : Int32) (x3 : Int32) (x4 : Int32) (x5 : Int32) (x6 : Int32) (s7 : Slot) (hs7 : One s7) (x9 : Int32) (x10 : Int32) (x11 : Int32) (x12 : Int32) (x14 : Int32) (hv : f0_225 c_b39_size v_b81 v_b121 x0 x1 x2 x5 x9 x10 x11 x12 x14 = some rr) :
    own_WP p e below (own_Q s P room_1.cells room_1.slots) T (mkF m 225 #[.val (.int x0), .val (.int x1), .val (.int x2), .val (.int x3), .val (.int x4), .val (.int x5), .val (.int x6), s7, .val (.ref b39), .val (.int x9), .val (.int x10), .val (.int x11), .val (.int x12), .val (.ref b121), .val (.int x14), .unset] []) := by
  obtain ⟨hx, hZ, hby, hml, hown, hnm, hret, hlk⟩ := id C
  replace hown : s.vm.findClass "com/example/objwire/objwire/ndr/NdrWriterToByteArrayPinLaw" = some m.cls := hown
  unfold f0_225 at hv
  show own_WP p e below _ T (mkF m 225 #[.val (.int x0), .val (.int x1), .val (.int x2), .val (.int x3), .val (.int x4), .val (.int x5), .val (.int x6), s7, .val (.ref b39), .val (.int x9), .val (.int x10), .val (.int x11), .val (.int x12), .val (.ref b121), .val (.int x14), .unset] [])
  refine own_go (fun _ => XS.iload X.here hx rfl (hb hby at_225) rfl) ?_
  show own_WP p e below _ T (mkF m 227 #[.val (.int x0), .val (.int x1), .val (.int x2), .val (.int x3), .val (.int x4), .val (.int x5), .val (.int x6), s7, .val (.ref b39), .val (.int x9), .val (.int x10), .val (.int x11), .val (.int x12), .val (.ref b121), .val (.int x14), .unset] [(.int x14)])
  by_cases h227 : x14 = (0 : Int32)
  · replace hv := (if_pos h227).symm.trans hv
    refine own_go (fun _ => XS.ifYes X.here hx rfl (pc0 := 227) (pc' := 291) rfl (hb hby at_227) rfl (XT.i0_eq_t h227) (by decide) (by decide)) ?_
    exact b0_291 hw C Z0 rr hP X e0 N K o_b20_b39 o_b39_b81 o_b81_b121 g_b20 z_b20 V_b20 E_b39 F_b39_data F_b39_size V_b81 V_b121 x0 x1 x2 x3 x4 x5 x6 s7 hs7 x9 x10 x11 x12 x14 hv
  · replace hv := (if_neg h227).symm.trans hv
    refine own_go (fun _ => XS.ifNo X.here hx rfl (hb hby at_227) rfl (XT.i0_eq_f h227)) ?_
    show own_WP p e below _ T (mkF m 230 #[.val (.int x0), .val (.int x1), .val (.int x2), .val (.int x3), .val (.int x4), .val (.int x5), .val (.int x6), s7, .val (.ref b39), .val (.int x9), .val (.int x10), .val (.int x11), .val (.int x12), .val (.ref b121), .val (.int x14), .unset] [])
    refine own_go (fun _ => XS.aload X.here hx rfl (hb hby at_230) rfl rfl) ?_
    show own_WP p e below _ T (mkF m 232 #[.val (.int x0), .val (.int x1), .val (.int x2), .val (.int x3), .val (.int x4), .val (.int x5), .val (.int x6), s7, .val (.ref b39), .val (.int x9), .val (.int x10), .val (.int x11), .val (.int x12), .val (.ref b121), .val (.int x14), .unset] [(.ref b121)])
    refine own_go (fun _ => XS.iconst X.here hx rfl (hb hby at_232)) ?_
    show own_WP p e below _ T (mkF m 233 #[.val (.int x0), .val (.int x1), .val (.int x2), .val (.int x3), .val (.int x4), .val (.int x5), .val (.int x6), s7, .val (.ref b39), .val (.int x9), .val (.int x10), .val (.int x11), .val (.int x12), .val (.ref b121), .val (.int x14), .unset] [(.int (1 : Int32)), (.ref b121)])
    refine own_go (fun _ => XS.iload X.here hx rfl (hb hby at_233) rfl) ?_
    show own_WP p e below _ T (mkF m 235 #[.val (.int x0), .val (.int x1), .val (.int x2), .val (.int x3), .val (.int x4), .val (.int x5), .val (.int x6), s7, .val (.ref b39), .val (.int x9), .val (.int x10), .val (.int x11), .val (.int x12), .val (.ref b121), .val (.int x14), .unset] [(.int x5), (.int (1 : Int32)), (.ref b121)])
    refine own_go (fun _ => XS.iadd X.here hx rfl (hb hby at_235) rfl) ?_
    show own_WP p e below _ T (mkF m 236 #[.val (.int x0), .val (.int x1), .val (.int x2), .val (.int x3), .val (.int x4), .val (.int x5), .val (.int x6), s7, .val (.ref b39), .val (.int x9), .val (.int x10), .val (.int x11), .val (.int x12), .val (.ref b121), .val (.int x14), .unset] [(.int ((1 : Int32) + x5)), (.ref b121)])
    obtain ⟨w31, hg31, hv⟩ := own_bind hv
    refine own_go (own_baload X C e0 V_b121 hg31 (hb hby at_236)) ?_
    show own_WP p e below _ T (mkF m 237 #[.val (.int x0), .val (.int x1), .val (.int x2), .val (.int x3), .val (.int x4), .val (.int x5), .val (.int x6), s7, .val (.ref b39), .val (.int x9), .val (.int x10), .val (.int x11), .val (.int x12), .val (.ref b121), .val (.int x14), .unset] [(.int w31)])
    refine own_go (fun _ => XS.iloadN X.here hx rfl (hb hby at_237) rfl) ?_
    show own_WP p e below _ T (mkF m 238 #[.val (.int x0), .val (.int x1), .val (.int x2), .val (.int x3), .val (.int x4), .val (.int x5), .val (.int x6), s7, .val (.ref b39), .val (.int x9), .val (.int x10), .val (.int x11), .val (.int x12), .val (.ref b121), .val (.int x14), .unset] [(.int x1), (.int w31)])
    refine own_go (fun _ => XS.i2b X.here hx rfl (hb hby at_238) rfl) ?_
    show own_WP p e below _ T (mkF m 239 #[.val (.int x0), .val (.int x1), .val (.int x2), .val (.int x3), .val (.int x4), .val (.int x5), .val (.int x6), s7, .val (.ref b39), .val (.int x9), .val (.int x10), .val (.int x11), .val (.int x12), .val (.ref b121), .val (.int x14), .unset] [(.int (x1.toInt8.toInt32)), (.int w31)])
    by_cases h239 : w31 = (x1.toInt8.toInt32)
    · replace hv := (if_pos h239).symm.trans hv
      refine own_go (fun _ => XS.icmpNo X.here hx rfl (hb hby at_239) rfl (XT.ii_ne_f h239)) ?_
      show own_WP p e below _ T (mkF m 242 #[.val (.int x0), .val (.int x1), .val (.int x2), .val (.int x3), .val (.int x4), .val (.int x5), .val (.int x6), s7, .val (.ref b39), .val (.int x9), .val (.int x10), .val (.int x11), .val (.int x12), .val (.ref b121), .val (.int x14), .unset] [])
      refine own_go (fun _ => XS.aload X.here hx rfl (hb hby at_242) rfl rfl) ?_
      show own_WP p e below _ T (mkF m 244 #[.val (.int x0), .val (.int x1), .val (.int x2), .val (.int x3), .val (.int x4), .val (.int x5), .val (.int x6), s7, .val (.ref b39), .val (.int x9), .val (.int x10), .val (.int x11), .val (.int x12), .val (.ref b121), .val (.int x14), .unset] [(.ref b121)])
      refine own_go (fun _ => XS.iconst X.here hx rfl (hb hby at_244)) ?_
      show own_WP p e below _ T (mkF m 245 #[.val (.int x0), .val (.int x1), .val (.int x2), .val (.int x3), .val (.int x4), .val (.int x5), .val (.int x6), s7, .val (.ref b39), .val (.int x9), .val (.int x10), .val (.int x11), .val (.int x12), .val (.ref b121), .val (.int x14), .unset] [(.int (2 : Int32)), (.ref b121)])
      refine own_go (fun _ => XS.iload X.here hx rfl (hb hby at_245) rfl) ?_
      show own_WP p e below _ T (mkF m 247 #[.val (.int x0), .val (.int x1), .val (.int x2), .val (.int x3), .val (.int x4), .val (.int x5), .val (.int x6), s7, .val (.ref b39), .val (.int x9), .val (.int x10), .val (.int x11), .val (.int x12), .val (.ref b121), .val (.int x14), .unset] [(.int x5), (.int (2 : Int32)), (.ref b121)])
      refine own_go (fun _ => XS.iadd X.here hx rfl (hb hby at_247) rfl) ?_
      show own_WP p e below _ T (mkF m 248 #[.val (.int x0), .val (.int x1), .val (.int x2), .val (.int x3), .val (.int x4), .val (.int x5), .val (.int x6), s7, .val (.ref b39), .val (.int x9), .val (.int x10), .val (.int x11), .val (.int x12), .val (.ref b121), .val (.int x14), .unset] [(.int ((2 : Int32) + x5)), (.ref b121)])
      obtain ⟨w32, hg32, hv⟩ := own_bind hv
      refine own_go (own_baload X C e0 V_b121 hg32 (hb hby at_248)) ?_
      show own_WP p e below _ T (mkF m 249 #[.val (.int x0), .val (.int x1), .val (.int x2), .val (.int x3), .val (.int x4), .val (.int x5), .val (.int x6), s7, .val (.ref b39), .val (.int x9), .val (.int x10), .val (.int x11), .val (.int x12), .val (.ref b121), .val (.int x14), .unset] [(.int w32)])
      refine own_go (fun _ => XS.iloadN X.here hx rfl (hb hby at_249) rfl) ?_
      show own_WP p e below _ T (mkF m 250 #[.val (.int x0), .val (.int x1), .val (.int x2), .val (.int x3), .val (.int x4), .val (.int x5), .val (.int x6), s7, .val (.ref b39), .val (.int x9), .val (.int x10), .val (.int x11), .val (.int x12), .val (.ref b121), .val (.int x14), .unset] [(.int x1), (.int w32)])
      refine own_go (fun _ => XS.bipush X.here hx rfl (hb hby at_250)) ?_
      show own_WP p e below _ T (mkF m 252 #[.val (.int x0), .val (.int x1), .val (.int x2), .val (.int x3), .val (.int x4), .val (.int x5), .val (.int x6), s7, .val (.ref b39), .val (.int x9), .val (.int x10), .val (.int x11), .val (.int x12), .val (.ref b121), .val (.int x14), .unset] [(.int (8 : Int32)), (.int x1), (.int w32)])
      refine own_go (fun _ => XT.iushr X.here hx rfl (hb hby at_252) rfl) ?_
      show own_WP p e below _ T (mkF m 253 #[.val (.int x0), .val (.int x1), .val (.int x2), .val (.int x3), .val (.int x4), .val (.int x5), .val (.int x6), s7, .val (.ref b39), .val (.int x9), .val (.int x10), .val (.int x11), .val (.int x12), .val (.ref b121), .val (.int x14), .unset] [(.int (XT.ushr x1 (8 : Int32))), (.int w32)])
      refine own_go (fun _ => XS.i2b X.here hx rfl (hb hby at_253) rfl) ?_
      show own_WP p e below _ T (mkF m 254 #[.val (.int x0), .val (.int x1), .val (.int x2), .val (.int x3), .val (.int x4), .val (.int x5), .val (.int x6), s7, .val (.ref b39), .val (.int x9), .val (.int x10), .val (.int x11), .val (.int x12), .val (.ref b121), .val (.int x14), .unset] [(.int ((XT.ushr x1 (8 : Int32)).toInt8.toInt32)), (.int w32)])
      by_cases h254 : w32 = ((XT.ushr x1 (8 : Int32)).toInt8.toInt32)
      · replace hv := (if_pos h254).symm.trans hv
        refine own_go (fun _ => XS.icmpNo X.here hx rfl (hb hby at_254) rfl (XT.ii_ne_f h254)) ?_
        show own_WP p e below _ T (mkF m 257 #[.val (.int x0), .val (.int x1), .val (.int x2), .val (.int x3), .val (.int x4), .val (.int x5), .val (.int x6), s7, .val (.ref b39), .val (.int x9), .val (.int x10), .val (.int x11), .val (.int x12), .val (.ref b121), .val (.int x14), .unset] [])
        refine own_go (fun _ => XS.aload X.here hx rfl (hb hby at_257) rfl rfl) ?_
        show own_WP p e below _ T (mkF m 259 #[.val (.int x0), .val (.int x1), .val (.int x2), .val (.int x3), .val (.int x4), .val (.int x5), .val (.int x6), s7, .val (.ref b39), .val (.int x9), .val (.int x10), .val (.int x11), .val (.int x12), .val (.ref b121), .val (.int x14), .unset] [(.ref b121)])
        refine own_go (fun _ => XS.iconst X.here hx rfl (hb hby at_259)) ?_
        show own_WP p e below _ T (mkF m 260 #[.val (.int x0), .val (.int x1), .val (.int x2), .val (.int x3), .val (.int x4), .val (.int x5), .val (.int x6), s7, .val (.ref b39), .val (.int x9), .val (.int x10), .val (.int x11), .val (.int x12), .val (.ref b121), .val (.int x14), .unset] [(.int (3 : Int32)), (.ref b121)])
        refine own_go (fun _ => XS.iload X.here hx rfl (hb hby at_260) rfl) ?_
        show own_WP p e below _ T (mkF m 262 #[.val (.int x0), .val (.int x1), .val (.int x2), .val (.int x3), .val (.int x4), .val (.int x5), .val (.int x6), s7, .val (.ref b39), .val (.int x9), .val (.int x10), .val (.int x11), .val (.int x12), .val (.ref b121), .val (.int x14), .unset] [(.int x5), (.int (3 : Int32)), (.ref b121)])
        refine own_go (fun _ => XS.iadd X.here hx rfl (hb hby at_262) rfl) ?_
        show own_WP p e below _ T (mkF m 263 #[.val (.int x0), .val (.int x1), .val (.int x2), .val (.int x3), .val (.int x4), .val (.int x5), .val (.int x6), s7, .val (.ref b39), .val (.int x9), .val (.int x10), .val (.int x11), .val (.int x12), .val (.ref b121), .val (.int x14), .unset] [(.int ((3 : Int32) + x5)), (.ref b121)])
        obtain ⟨w33, hg33, hv⟩ := own_bind hv
        refine own_go (own_baload X C e0 V_b121 hg33 (hb hby at_263)) ?_
        show own_WP p e below _ T (mkF m 264 #[.val (.int x0), .val (.int x1), .val (.int x2), .val (.int x3), .val (.int x4), .val (.int x5), .val (.int x6), s7, .val (.ref b39), .val (.int x9), .val (.int x10), .val (.int x11), .val (.int x12), .val (.ref b121), .val (.int x14), .unset] [(.int w33)])
        refine own_go (fun _ => XS.iloadN X.here hx rfl (hb hby at_264) rfl) ?_
        show own_WP p e below _ T (mkF m 265 #[.val (.int x0), .val (.int x1), .val (.int x2), .val (.int x3), .val (.int x4), .val (.int x5), .val (.int x6), s7, .val (.ref b39), .val (.int x9), .val (.int x10), .val (.int x11), .val (.int x12), .val (.ref b121), .val (.int x14), .unset] [(.int x1), (.int w33)])
        refine own_go (fun _ => XS.bipush X.here hx rfl (hb hby at_265)) ?_
        show own_WP p e below _ T (mkF m 267 #[.val (.int x0), .val (.int x1), .val (.int x2), .val (.int x3), .val (.int x4), .val (.int x5), .val (.int x6), s7, .val (.ref b39), .val (.int x9), .val (.int x10), .val (.int x11), .val (.int x12), .val (.ref b121), .val (.int x14), .unset] [(.int (16 : Int32)), (.int x1), (.int w33)])
        refine own_go (fun _ => XT.iushr X.here hx rfl (hb hby at_267) rfl) ?_
        show own_WP p e below _ T (mkF m 268 #[.val (.int x0), .val (.int x1), .val (.int x2), .val (.int x3), .val (.int x4), .val (.int x5), .val (.int x6), s7, .val (.ref b39), .val (.int x9), .val (.int x10), .val (.int x11), .val (.int x12), .val (.ref b121), .val (.int x14), .unset] [(.int (XT.ushr x1 (16 : Int32))), (.int w33)])
        refine own_go (fun _ => XS.i2b X.here hx rfl (hb hby at_268) rfl) ?_
        show own_WP p e below _ T (mkF m 269 #[.val (.int x0), .val (.int x1), .val (.int x2), .val (.int x3), .val (.int x4), .val (.int x5), .val (.int x6), s7, .val (.ref b39), .val (.int x9), .val (.int x10), .val (.int x11), .val (.int x12), .val (.ref b121), .val (.int x14), .unset] [(.int ((XT.ushr x1 (16 : Int32)).toInt8.toInt32)), (.int w33)])
        by_cases h269 : w33 = ((XT.ushr x1 (16 : Int32)).toInt8.toInt32)
        · replace hv := (if_pos h269).symm.trans hv
          refine own_go (fun _ => XS.icmpNo X.here hx rfl (hb hby at_269) rfl (XT.ii_ne_f h269)) ?_
          show own_WP p e below _ T (mkF m 272 #[.val (.int x0), .val (.int x1), .val (.int x2), .val (.int x3), .val (.int x4), .val (.int x5), .val (.int x6), s7, .val (.ref b39), .val (.int x9), .val (.int x10), .val (.int x11), .val (.int x12), .val (.ref b121), .val (.int x14), .unset] [])
          refine own_go (fun _ => XS.aload X.here hx rfl (hb hby at_272) rfl rfl) ?_
          show own_WP p e below _ T (mkF m 274 #[.val (.int x0), .val (.int x1), .val (.int x2), .val (.int x3), .val (.int x4), .val (.int x5), .val (.int x6), s7, .val (.ref b39), .val (.int x9), .val (.int x10), .val (.int x11), .val (.int x12), .val (.ref b121), .val (.int x14), .unset] [(.ref b121)])
          refine own_go (fun _ => XS.iconst X.here hx rfl (hb hby at_274)) ?_
          show own_WP p e below _ T (mkF m 275 #[.val (.int x0), .val (.int x1), .val (.int x2), .val (.int x3), .val (.int x4), .val (.int x5), .val (.int x6), s7, .val (.ref b39), .val (.int x9), .val (.int x10), .val (.int x11), .val (.int x12), .val (.ref b121), .val (.int x14), .unset] [(.int (4 : Int32)), (.ref b121)])
          refine own_go (fun _ => XS.iload X.here hx rfl (hb hby at_275) rfl) ?_
          show own_WP p e below _ T (mkF m 277 #[.val (.int x0), .val (.int x1), .val (.int x2), .val (.int x3), .val (.int x4), .val (.int x5), .val (.int x6), s7, .val (.ref b39), .val (.int x9), .val (.int x10), .val (.int x11), .val (.int x12), .val (.ref b121), .val (.int x14), .unset] [(.int x5), (.int (4 : Int32)), (.ref b121)])
          refine own_go (fun _ => XS.iadd X.here hx rfl (hb hby at_277) rfl) ?_
          show own_WP p e below _ T (mkF m 278 #[.val (.int x0), .val (.int x1), .val (.int x2), .val (.int x3), .val (.int x4), .val (.int x5), .val (.int x6), s7, .val (.ref b39), .val (.int x9), .val (.int x10), .val (.int x11), .val (.int x12), .val (.ref b121), .val (.int x14), .unset] [(.int ((4 : Int32) + x5)), (.ref b121)])
          obtain ⟨w34, hg34, hv⟩ := own_bind hv
          refine own_go (own_baload X C e0 V_b121 hg34 (hb hby at_278)) ?_
          show own_WP p e below _ T (mkF m 279 #[.val (.int x0), .val (.int x1), .val (.int x2), .val (.int x3), .val (.int x4), .val (.int x5), .val (.int x6), s7, .val (.ref b39), .val (.int x9), .val (.int x10), .val (.int x11), .val (.int x12), .val (.ref b121), .val (.int x14), .unset] [(.int w34)])
          refine own_go (fun _ => XS.iloadN X.here hx rfl (hb hby at_279) rfl) ?_
          show own_WP p e below _ T (mkF m 280 #[.val (.int x0), .val (.int x1), .val (.int x2), .val (.int x3), .val (.int x4), .val (.int x5), .val (.int x6), s7, .val (.ref b39), .val (.int x9), .val (.int x10), .val (.int x11), .val (.int x12), .val (.ref b121), .val (.int x14), .unset] [(.int x1), (.int w34)])
          refine own_go (fun _ => XS.bipush X.here hx rfl (hb hby at_280)) ?_
          show own_WP p e below _ T (mkF m 282 #[.val (.int x0), .val (.int x1), .val (.int x2), .val (.int x3), .val (.int x4), .val (.int x5), .val (.int x6), s7, .val (.ref b39), .val (.int x9), .val (.int x10), .val (.int x11), .val (.int x12), .val (.ref b121), .val (.int x14), .unset] [(.int (24 : Int32)), (.int x1), (.int w34)])
          refine own_go (fun _ => XT.iushr X.here hx rfl (hb hby at_282) rfl) ?_
          show own_WP p e below _ T (mkF m 283 #[.val (.int x0), .val (.int x1), .val (.int x2), .val (.int x3), .val (.int x4), .val (.int x5), .val (.int x6), s7, .val (.ref b39), .val (.int x9), .val (.int x10), .val (.int x11), .val (.int x12), .val (.ref b121), .val (.int x14), .unset] [(.int (XT.ushr x1 (24 : Int32))), (.int w34)])
          refine own_go (fun _ => XS.i2b X.here hx rfl (hb hby at_283) rfl) ?_
          show own_WP p e below _ T (mkF m 284 #[.val (.int x0), .val (.int x1), .val (.int x2), .val (.int x3), .val (.int x4), .val (.int x5), .val (.int x6), s7, .val (.ref b39), .val (.int x9), .val (.int x10), .val (.int x11), .val (.int x12), .val (.ref b121), .val (.int x14), .unset] [(.int ((XT.ushr x1 (24 : Int32)).toInt8.toInt32)), (.int w34)])
          by_cases h284 : w34 = ((XT.ushr x1 (24 : Int32)).toInt8.toInt32)
          · replace hv := (if_pos h284).symm.trans hv
            refine own_go (fun _ => XS.icmpNo X.here hx rfl (hb hby at_284) rfl (XT.ii_ne_f h284)) ?_
            show own_WP p e below _ T (mkF m 287 #[.val (.int x0), .val (.int x1), .val (.int x2), .val (.int x3), .val (.int x4), .val (.int x5), .val (.int x6), s7, .val (.ref b39), .val (.int x9), .val (.int x10), .val (.int x11), .val (.int x12), .val (.ref b121), .val (.int x14), .unset] [])
            refine own_go (fun _ => XS.iconst X.here hx rfl (hb hby at_287)) ?_
            show own_WP p e below _ T (mkF m 288 #[.val (.int x0), .val (.int x1), .val (.int x2), .val (.int x3), .val (.int x4), .val (.int x5), .val (.int x6), s7, .val (.ref b39), .val (.int x9), .val (.int x10), .val (.int x11), .val (.int x12), .val (.ref b121), .val (.int x14), .unset] [(.int (1 : Int32))])
            refine own_go (fun _ => XS.goto X.here hx rfl (pc0 := 288) (pc' := 292) rfl (hb hby at_288) (by decide) (by decide)) ?_
            exact b0_292 hw C Z0 rr hP X e0 N K o_b20_b39 o_b39_b81 o_b81_b121 g_b20 z_b20 V_b20 E_b39 F_b39_data F_b39_size V_b81 V_b121 x0 x1 x2 x3 x4 x5 x6 s7 hs7 x9 x10 x11 x12 x14 (1 : Int32) hv
          · replace hv := (if_neg h284).symm.trans hv
            refine own_go (fun _ => XS.icmpYes X.here hx rfl (pc0 := 284) (pc' := 291) rfl (hb hby at_284) rfl (XT.ii_ne_t h284) (by decide) (by decide)) ?_
            exact b0_291 hw C Z0 rr hP X e0 N K o_b20_b39 o_b39_b81 o_b81_b121 g_b20 z_b20 V_b20 E_b39 F_b39_data F_b39_size V_b81 V_b121 x0 x1 x2 x3 x4 x5 x6 s7 hs7 x9 x10 x11 x12 x14 hv
        · replace hv := (if_neg h269).symm.trans hv
          refine own_go (fun _ => XS.icmpYes X.here hx rfl (pc0 := 269) (pc' := 291) rfl (hb hby at_269) rfl (XT.ii_ne_t h269) (by decide) (by decide)) ?_
          exact b0_291 hw C Z0 rr hP X e0 N K o_b20_b39 o_b39_b81 o_b81_b121 g_b20 z_b20 V_b20 E_b39 F_b39_data F_b39_size V_b81 V_b121 x0 x1 x2 x3 x4 x5 x6 s7 hs7 x9 x10 x11 x12 x14 hv
      · replace hv := (if_neg h254).symm.trans hv
        refine own_go (fun _ => XS.icmpYes X.here hx rfl (pc0 := 254) (pc' := 291) rfl (hb hby at_254) rfl (XT.ii_ne_t h254) (by decide) (by decide)) ?_
        exact b0_291 hw C Z0 rr hP X e0 N K o_b20_b39 o_b39_b81 o_b81_b121 g_b20 z_b20 V_b20 E_b39 F_b39_data F_b39_size V_b81 V_b121 x0 x1 x2 x3 x4 x5 x6 s7 hs7 x9 x10 x11 x12 x14 hv
    · replace hv := (if_neg h239).symm.trans hv
      refine own_go (fun _ => XS.icmpYes X.here hx rfl (pc0 := 239) (pc' := 291) rfl (hb hby at_239) rfl (XT.ii_ne_t h239) (by decide) (by decide)) ?_
      exact b0_291 hw C Z0 rr hP X e0 N K o_b20_b39 o_b39_b81 o_b81_b121 g_b20 z_b20 V_b20 E_b39 F_b39_data F_b39_size V_b81 V_b121 x0 x1 x2 x3 x4 x5 x6 s7 hs7 x9 x10 x11 x12 x14 hv
def f0_223 (c_b39_size : Int32) (v_b81 : List Int32) (v_b121 : List Int32) (x0 : Int32) (x1 : Int32) (x2 : Int32) (x5 : Int32) (x9 : Int32) (x10 : Int32) (x11 : Int32) (x12 : Int32) (t0 : Int32) : Option (Int32) := (f0_225 c_b39_size v_b81 v_b121 x0 x1 x2 x5 x9 x10 x11 x12 t0)
set_option maxRecDepth 65536 in
set_option maxHeartbeats 40000000 in
theorem b0_223 {p : Program} {l : Launch} {e : Env} {s : State} {m : MethodId} {args : Array Value} {below : List Frame} {meth : Method} {c : Code} {Z : State} {a0 : Array Value} {h0 : Heap} {n0 : Nat} {P : Option Value → Heap → List Loc → Prop} (hw : ∀ d ∈ tables_1, d.before a0 Z = true) (C : own_Ctx p s m meth c Z x code maxLocals ret) (Z0 : n0 ≤ h0.size)   (rr : Int32) (hP : ∀ v h L, Fr n0 L → Keep h0 h [] → E0 Z h0  rr v h → P v h L)
    {T : State} {locs : List Loc} {h : Heap} {b20 : Nat} {b39 : Nat} {b81 : Nat} {b121 : Nat} {v_b20 : List Int32} {c_b39_size : Int32} {v_b81 : List Int32} {v_b121 : List Int32} (X : Stand p l e room_1 s m args below meth c T locs 9 1617) (e0 : T.heap = h) (N : Fr n0 locs) (K : Keep h0 h []) (o_b20_b39 : b20 < b39) (o_b39_b81 : b39 < b81) (o_b81_b121 : b81 < b121) (g_b20 : n0 ≤ b20) (z_b20 : h0.size ≤ b20) (V_b20 : own_AI Z h b20 .byte v_b20) (E_b39 : Exa Z h b39 "com/example/objwire/objwire/ndr/NdrWriter") (F_b39_data : Fld Z h b39 "com/example/objwire/objwire/ndr/NdrWriter" "data" "[B" (.ref b81)) (F_b39_size : Fld Z h b39 "com/example/objwire/objwire/ndr/NdrWriter" "size" "I" (.int c_b39_size)) (V_b81 : own_AI Z h b81 .byte v_b81) (V_b121 : own_AI Z h b121 .byte v_b121) (x0 : Int32) (x1 : Int32) (x2 : Int32) (x3 : Int32) (x4 : Int32) (x5 : Int32) (x6 : Int32) (s7 : Slot) (hs7 : One s7) (x9 : Int32) (x10 : Int32) (x11 : Int32) (x12 : Int32) (x14 : Int32) (t0 : Int32) (hv : f0_223 c_b39_size v_b81 v_b121 x0 x1 x2 x5 x9 x10 x11 x12 t0 = some rr) :
    own_WP p e below (own_Q s P room_1.cells room_1.slots) T (mkF m 223 #[.val (.int x0), .val (.int x1), .val (.int x2), .val (.int x3), .val (.int x4), .val (.int x5), .val (.int x6), s7, .val (.ref b39), .val (.int x9), .val (.int x10), .val (.int x11), .val (.int x12), .val (.ref b121), .val (.int x14), .unset] [(.int t0)]) := by
  obtain ⟨hx, hZ, hby, hml, hown, hnm, hret, hlk⟩ := id C
  replace hown : s.vm.findClass "com/example/objwire/objwire/ndr/NdrWriterToByteArrayPinLaw" = some m.cls := hown
  unfold f0_223 at hv
  show own_WP p e below _ T (mkF m 223 #[.val (.int x0), .val (.int x1), .val (.int x2), .val (.int x3), .val (.int x4), .val (.int x5), .val (.int x6), s7, .val (.ref b39), .val (.int x9), .val (.int x10), .val (.int x11), .val (.int x12), .val (.ref b121), .val (.int x14), .unset] [(.int t0)])
  refine own_go (fun _ => XS.istore X.here hx rfl (hb hby at_223) rfl (l' := #[.val (.int x0), .val (.int x1), .val (.int x2), .val (.int x3), .val (.int x4), .val (.int x5), .val (.int x6), s7, .val (.ref b39), .val (.int x9), .val (.int x10), .val (.int x11), .val (.int x12), .val (.ref b121), .val (.int t0), .unset]) rfl) ?_
  exact b0_225 hw C Z0 rr hP X e0 N K o_b20_b39 o_b39_b81 o_b81_b121 g_b20 z_b20 V_b20 E_b39 F_b39_data F_b39_size V_b81 V_b121 x0 x1 x2 x3 x4 x5 x6 s7 hs7 x9 x10 x11 x12 t0 hv
def f0_222 (c_b39_size : Int32) (v_b81 : List Int32) (v_b121 : List Int32) (x0 : Int32) (x1 : Int32) (x2 : Int32) (x5 : Int32) (x9 : Int32) (x10 : Int32) (x11 : Int32) (x12 : Int32) : Option (Int32) := (f0_223 c_b39_size v_b81 v_b121 x0 x1 x2 x5 x9 x10 x11 x12 (0 : Int32))
set_option maxRecDepth 65536 in
set_option maxHeartbeats 40000000 in
theorem b0_222 {p : Program} {l : Launch} {e : Env} {s : State} {m : MethodId} {args : Array Value} {below : List Frame} {meth : Method} {c : Code} {Z : State} {a0 : Array Value} {h0 : Heap} {n0 : Nat} {P : Option Value → Heap → List Loc → Prop} (hw : ∀ d ∈ tables_1, d.before a0 Z = true) (C : own_Ctx p s m meth c Z x code maxLocals ret) (Z0 : n0 ≤ h0.size)   (rr : Int32) (hP : ∀ v h L, Fr n0 L → Keep h0 h [] → E0 Z h0  rr v h → P v h L)
    {T : State} {locs : List Loc} {h : Heap} {b20 : Nat} {b39 : Nat} {b81 : Nat} {b121 : Nat} {v_b20 : List Int32} {c_b39_size : Int32} {v_b81 : List Int32} {v_b121 : List Int32} (X : Stand p l e room_1 s m args below meth c T locs 9 1617) (e0 : T.heap = h) (N : Fr n0 locs) (K : Keep h0 h []) (o_b20_b39 : b20 < b39) (o_b39_b81 : b39 < b81) (o_b81_b121 : b81 < b121) (g_b20 : n0 ≤ b20) (z_b20 : h0.size ≤ b20) (V_b20 : own_AI Z h b20 .byte v_b20) (E_b39 : Exa Z h b39 "com/example/objwire/objwire/ndr/NdrWriter") (F_b39_data : Fld Z h b39 "com/example/objwire/objwire/ndr/NdrWriter" "data" "[B" (.ref b81)) (F_b39_size : Fld Z h b39 "com/example/objwire/objwire/ndr/NdrWriter" "size" "I" (.int c_b39_size)) (V_b81 : own_AI Z h b81 .byte v_b81) (V_b121 : own_AI Z h b121 .byte v_b121) (x0 : Int32) (x1 : Int32) (x2 : Int32) (x3 : Int32) (x4 : Int32) (x5 : Int32) (x6 : Int32) (s7 : Slot) (hs7 : One s7) (x9 : Int32) (x10 : Int32) (x11 : Int32) (x12 : Int32) (x14 : Int32) (hv : f0_222 c_b39_size v_b81 v_b121 x0 x1 x2 x5 x9 x10 x11 x12 = some rr) :
    own_WP p e below (own_Q s P room_1.cells room_1.slots) T (mkF m 222 #[.val (.int x0), .val (.int x1), .val (.int x2), .val (.int x3), .val (.int x4), .val (.int x5), .val (.int x6), s7, .val (.ref b39), .val (.int x9), .val (.int x10), .val (.int x11), .val (.int x12), .val (.ref b121), .val (.int x14), .unset] []) := by
  obtain ⟨hx, hZ, hby, hml, hown, hnm, hret, hlk⟩ := id C
  replace hown : s.vm.findClass "com/example/objwire/objwire/ndr/NdrWriterToByteArrayPinLaw" = some m.cls := hown
  unfold f0_222 at hv
  show own_WP p e below _ T (mkF m 222 #[.val (.int x0), .val (.int x1), .val (.int x2), .val (.int x3), .val (.int x4), .val (.int x5), .val (.int x6), s7, .val (.ref b39), .val (.int x9), .val (.int x10), .val (.int x11), .val (.int x12), .val (.ref b121), .val (.int x14), .unset] [])
  refine own_go (fun _ => XS.iconst X.here hx rfl (hb hby at_222)) ?_
  exact b0_223 hw C Z0 rr hP X e0 N K o_b20_b39 o_b39_b81 o_b81_b121 g_b20 z_b20 V_b20 E_b39 F_b39_data F_b39_size V_b81 V_b121 x0 x1 x2 x3 x4 x5 x6 s7 hs7 x9 x10 x11 x12 x14 (0 : Int32) hv
def f0_190 (c_b39_size : Int32) (v_b81 : List Int32) (v_b121 : List Int32) (x0 : Int32) (x1 : Int32) (x2 : Int32) (x5 : Int32) (x9 : Int32) (x10 : Int32) (x11 : Int32) (x12 : Int32) (x14 : Int32) : Option (Int32) := (if (1 : Int32) < x5 then (if x14 = (0 : Int32) then (f0_222 c_b39_size v_b81 v_b121 x0 x1 x2 x5 x9 x10 x11 x12) else ((own_get v_b121 (1 : Int32)).bind fun w35 => (if w35 = (0 : Int32) then ((own_get v_b121 (x5 - (1 : Int32))).bind fun w36 => (if w36 = (0 : Int32) then (f0_223 c_b39_size v_b81 v_b121 x0 x1 x2 x5 x9 x10 x11 x12 (1 : Int32)) else (f0_222 c_b39_size v_b81 v_b121 x0 x1 x2 x5 x9 x10 x11 x12))) else (f0_222 c_b39_size v_b81 v_b121 x0 x1 x2 x5 x9 x10 x11 x12)))) else (f0_225 c_b39_size v_b81 v_b121 x0 x1 x2 x5 x9 x10 x11 x12 x14))
set_option maxRecDepth 65536 in
set_option maxHeartbeats 40000000 in
theorem b0_190 {p : Program} {l : Launch} {e : Env} {s : State} {m : MethodId} {args : Array Value} {below : List Frame} {meth : Method} {c : Code} {Z : State} {a0 : Array Value} {h0 : Heap} {n0 : Nat} {P : Option Value → Heap → List Loc → Prop} (hw : ∀ d ∈ tables_1, d.before a0 Z = true) (C : own_Ctx p s m meth c Z x code maxLocals ret) (Z0 : n0 ≤ h0.size)   (rr : Int32) (hP : ∀ v h L, Fr n0 L → Keep h0 h [] → E0 Z h0  rr v h → P v h L)
    {T : State} {locs : List Loc} {h : Heap} {b20 : Nat} {b39 : Nat} {b81 : Nat} {b121 : Nat} {v_b20 : List Int32} {c_b39_size : Int32} {v_b81 : List Int32} {v_b121 : List Int32} (X : Stand p l e room_1 s m args below meth c T locs 9 1617) (e0 : T.heap = h) (N : Fr n0 locs) (K : Keep h0 h []) (o_b20_b39 : b20 < b39) (o_b39_b81 : b39 < b81) (o_b81_b121 : b81 < b121) (g_b20 : n0 ≤ b20) (z_b20 : h0.size ≤ b20) (V_b20 : own_AI Z h b20 .byte v_b20) (E_b39 : Exa Z h b39 "com/example/objwire/objwire/ndr/NdrWriter") (F_b39_data : Fld Z h b39 "com/example/objwire/objwire/ndr/NdrWriter" "data" "[B" (.ref b81)) (F_b39_size : Fld Z h b39 "com/example/objwire/objwire/ndr/NdrWriter" "size" "I" (.int c_b39_size)) (V_b81 : own_AI Z h b81 .byte v_b81) (V_b121 : own_AI Z h b121 .byte v_b121) (x0 : Int32) (x1 : Int32) (x2 : Int32) (x3 : Int32) (x4 : Int32) (x5 : Int32) (x6 : Int32) (s7 : Slot) (hs7 : One s7) (x9 : Int32) (x10 : Int32) (x11 : Int32) (x12 : Int32) (x14 : Int32) (hv : f0_190 c_b39_size v_b81 v_b121 x0 x1 x2 x5 x9 x10 x11 x12 x14 = some rr) :
    own_WP p e below (own_Q s P room_1.cells room_1.slots) T (mkF m 190 #[.val (.int x0), .val (.int x1), .val (.int x2), .val (.int x3), .val (.int x4), .val (.int x5), .val (.int x6), s7, .val (.ref b39), .val (.int x9), .val (.int x10), .val (.int x11), .val (.int x12), .val (.ref b121), .val (.int x14), .unset] []) := by
  obtain ⟨hx, hZ, hby, hml, hown, hnm, hret, hlk⟩ := id C
  replace hown : s.vm.findClass "com/example/objwire/objwire/ndr/NdrWriterToByteArrayPinLaw" = some m.cls := hown
  unfold f0_190 at hv
  show own_WP p e below _ T (mkF m 190 #[.val (.int x0), .val (.int x1), .val (.int x2), .val (.int x3), .val (.int x4), .val (.int x5), .val (.int x6), s7, .val (.ref b39), .val (.int x9), .val (.int x10), .val (.int x11), .val (.int x12), .val (.ref b121), .val (.int x14), .unset] [])
  refine own_go (fun _ => XS.iload X.here hx rfl (hb hby at_190) rfl) ?_
  show own_WP p e below _ T (mkF m 192 #[.val (.int x0), .val (.int x1), .val (.int x2), .val (.int x3), .val (.int x4), .val (.int x5), .val (.int x6), s7, .val (.ref b39), .val (.int x9), .val (.int x10), .val (.int x11), .val (.int x12), .val (.ref b121), .val (.int x14), .unset] [(.int x5)])
  refine own_go (fun _ => XS.iconst X.here hx rfl (hb hby at_192)) ?_
  show own_WP p e below _ T (mkF m 193 #[.val (.int x0), .val (.int x1), .val (.int x2), .val (.int x3), .val (.int x4), .val (.int x5), .val (.int x6), s7, .val (.ref b39), .val (.int x9), .val (.int x10), .val (.int x11), .val (.int x12), .val (.ref b121), .val (.int x14), .unset] [(.int (1 : Int32)), (.int x5)])
  by_cases h193 : (1 : Int32) < x5
  · replace hv := (if_pos h193).symm.trans hv
    refine own_go (fun _ => XS.icmpNo X.here hx rfl (hb hby at_193) rfl (XT.ii_le_f h193)) ?_
    show own_WP p e below _ T (mkF m 196 #[.val (.int x0), .val (.int x1), .val (.int x2), .val (.int x3), .val (.int x4), .val (.int x5), .val (.int x6), s7, .val (.ref b39), .val (.int x9), .val (.int x10), .val (.int x11), .val (.int x12), .val (.ref b121), .val (.int x14), .unset] [])
    refine own_go (fun _ => XS.iload X.here hx rfl (hb hby at_196) rfl) ?_
    show own_WP p e below _ T (mkF m 198 #[.val (.int x0), .val (.int x1), .val (.int x2), .val (.int x3), .val (.int x4), .val (.int x5), .val (.int x6), s7, .val (.ref b39), .val (.int x9), .val (.int x10), .val (.int x11), .val (.int x12), .val (.ref b121), .val (.int x14), .unset] [(.int x14)])
    by_cases h198 : x14 = (0 : Int32)
    · replace hv := (if_pos h198).symm.trans hv
      refine own_go (fun _ => XS.ifYes X.here hx rfl (pc0 := 198) (pc' := 222) rfl (hb hby at_198) rfl (XT.i0_eq_t h198) (by decide) (by decide)) ?_
      exact b0_222 hw C Z0 rr hP X e0 N K o_b20_b39 o_b39_b81 o_b81_b121 g_b20 z_b20 V_b20 E_b39 F_b39_data F_b39_size V_b81 V_b121 x0 x1 x2 x3 x4 x5 x6 s7 hs7 x9 x10 x11 x12 x14 hv
    · replace hv := (if_neg h198).symm.trans hv
      refine own_go (fun _ => XS.ifNo X.here hx rfl (hb hby at_198) rfl (XT.i0_eq_f h198)) ?_
      show own_WP p e below _ T (mkF m 201 #[.val (.int x0), .val (.int x1), .val (.int x2), .val (.int x3), .val (.int x4), .val (.int x5), .val (.int x6), s7, .val (.ref b39), .val (.int x9), .val (.int x10), .val (.int x11), .val (.int x12), .val (.ref b121), .val (.int x14), .unset] [])
      refine own_go (fun _ => XS.aload X.here hx rfl (hb hby at_201) rfl rfl) ?_
      show own_WP p e below _ T (mkF m 203 #[.val (.int x0), .val (.int x1), .val (.int x2), .val (.int x3), .val (.int x4), .val (.int x5), .val (.int x6), s7, .val (.ref b39), .val (.int x9), .val (.int x10), .val (.int x11), .val (.int x12), .val (.ref b121), .val (.int x14), .unset] [(.ref b121)])
      refine own_go (fun _ => XS.iconst X.here hx rfl (hb hby at_203)) ?_
      show own_WP p e below _ T (mkF m 204 #[.val (.int x0), .val (.int x1), .val (.int x2), .val (.int x3), .val (.int x4), .val (.int x5), .val (.int x6), s7, .val (.ref b39), .val (.int x9), .val (.int x10), .val (.int x11), .val (.int x12), .val (.ref b121), .val (.int x14), .unset] [(.int (1 : Int32)), (.ref b121)])
      obtain ⟨w35, hg35, hv⟩ := own_bind hv
      refine own_go (own_baload X C e0 V_b121 hg35 (hb hby at_204)) ?_
      show own_WP p e below _ T (mkF m 205 #[.val (.int x0), .val (.int x1), .val (.int x2), .val (.int x3), .val (.int x4), .val (.int x5), .val (.int x6), s7, .val (.ref b39), .val (.int x9), .val (.int x10), .val (.int x11), .val (.int x12), .val (.ref b121), .val (.int x14), .unset] [(.int w35)])
      by_cases h205 : w35 = (0 : Int32)
      · replace hv := (if_pos h205).symm.trans hv
        refine own_go (fun _ => XS.ifNo X.here hx rfl (hb hby at_205) rfl (XT.i0_ne_f h205)) ?_
        show own_WP p e below _ T (mkF m 208 #[.val (.int x0), .val (.int x1), .val (.int x2), .val (.int x3), .val (.int x4), .val (.int x5), .val (.int x6), s7, .val (.ref b39), .val (.int x9), .val (.int x10), .val (.int x11), .val (.int x12), .val (.ref b121), .val (.int x14), .unset] [])
        refine own_go (fun _ => XS.aload X.here hx rfl (hb hby at_208) rfl rfl) ?_
        show own_WP p e below _ T (mkF m 210 #[.val (.int x0), .val (.int x1), .val (.int x2), .val (.int x3), .val (.int x4), .val (.int x5), .val (.int x6), s7, .val (.ref b39), .val (.int x9), .val (.int x10), .val (.int x11), .val (.int x12), .val (.ref b121), .val (.int x14), .unset] [(.ref b121)])
        refine own_go (fun _ => XS.iload X.here hx rfl (hb hby at_210) rfl) ?_
        show own_WP p e below _ T (mkF m 212 #[.val (.int x0), .val (.int x1), .val (.int x2), .val (.int x3), .val (.int x4), .val (.int x5), .val (.int x6), s7, .val (.ref b39), .val (.int x9), .val (.int x10), .val (.int x11), .val (.int x12), .val (.ref b121), .val (.int x14), .unset] [(.int x5), (.ref b121)])
        refine own_go (fun _ => XS.iconst X.here hx rfl (hb hby at_212)) ?_
        show own_WP p e below _ T (mkF m 213 #[.val (.int x0), .val (.int x1), .val (.int x2), .val (.int x3), .val (.int x4), .val (.int x5), .val (.int x6), s7, .val (.ref b39), .val (.int x9), .val (.int x10), .val (.int x11), .val (.int x12), .val (.ref b121), .val (.int x14), .unset] [(.int (1 : Int32)), (.int x5), (.ref b121)])
        refine own_go (fun _ => XS.isub X.here hx rfl (hb hby at_213) rfl) ?_
        show own_WP p e below _ T (mkF m 214 #[.val (.int x0), .val (.int x1), .val (.int x2), .val (.int x3), .val (.int x4), .val (.int x5), .val (.int x6), s7, .val (.ref b39), .val (.int x9), .val (.int x10), .val (.int x11), .val (.int x12), .val (.ref b121), .val (.int x14), .unset] [(.int (x5 - (1 : Int32))), (.ref b121)])
        obtain ⟨w36, hg36, hv⟩ := own_bind hv
        refine own_go (own_baload X C e0 V_b121 hg36 (hb hby at_214)) ?_
        show own_WP p e below _ T (mkF m 215 #[.val (.int x0), .val (.int x1), .val (.int x2), .val (.int x3), .val (.int x4), .val (.int x5), .val (.int x6), s7, .val (.ref b39), .val (.int x9), .val (.int x10), .val (.int x11), .val (.int x12), .val (.ref b121), .val (.int x14), .unset] [(.int w36)])
        by_cases h215 : w36 = (0 : Int32)
        · replace hv := (if_pos h215).symm.trans hv
          refine own_go (fun _ => XS.ifNo X.here hx rfl (hb hby at_215) rfl (XT.i0_ne_f h215)) ?_
          show own_WP p e below _ T (mkF m 218 #[.val (.int x0), .val (.int x1), .val (.int x2), .val (.int x3), .val (.int x4), .val (.int x5), .val (.int x6), s7, .val (.ref b39), .val (.int x9), .val (.int x10), .val (.int x11), .val (.int x12), .val (.ref b121), .val (.int x14), .unset] [])
          refine own_go (fun _ => XS.iconst X.here hx rfl (hb hby at_218)) ?_
          show own_WP p e below _ T (mkF m 219 #[.val (.int x0), .val (.int x1), .val (.int x2), .val (.int x3), .val (.int x4), .val (.int x5), .val (.int x6), s7, .val (.ref b39), .val (.int x9), .val (.int x10), .val (.int x11), .val (.int x12), .val (.ref b121), .val (.int x14), .unset] [(.int (1 : Int32))])
          refine own_go (fun _ => XS.goto X.here hx rfl (pc0 := 219) (pc' := 223) rfl (hb hby at_219) (by decide) (by decide)) ?_
          exact b0_223 hw C Z0 rr hP X e0 N K o_b20_b39 o_b39_b81 o_b81_b121 g_b20 z_b20 V_b20 E_b39 F_b39_data F_b39_size V_b81 V_b121 x0 x1 x2 x3 x4 x5 x6 s7 hs7 x9 x10 x11 x12 x14 (1 : Int32) hv
        · replace hv := (if_neg h215).symm.trans hv
          refine own_go (fun _ => XS.ifYes X.here hx rfl (pc0 := 215) (pc' := 222) rfl (hb hby at_215) rfl (XT.i0_ne_t h215) (by decide) (by decide)) ?_
          exact b0_222 hw C Z0 rr hP X e0 N K o_b20_b39 o_b39_b81 o_b81_b121 g_b20 z_b20 V_b20 E_b39 F_b39_data F_b39_size V_b81 V_b121 x0 x1 x2 x3 x4 x5 x6 s7 hs7 x9 x10 x11 x12 x14 hv
      · replace hv := (if_neg h205).symm.trans hv
        refine own_go (fun _ => XS.ifYes X.here hx rfl (pc0 := 205) (pc' := 222) rfl (hb hby at_205) rfl (XT.i0_ne_t h205) (by decide) (by decide)) ?_
        exact b0_222 hw C Z0 rr hP X e0 N K o_b20_b39 o_b39_b81 o_b81_b121 g_b20 z_b20 V_b20 E_b39 F_b39_data F_b39_size V_b81 V_b121 x0 x1 x2 x3 x4 x5 x6 s7 hs7 x9 x10 x11 x12 x14 hv
  · replace hv := (if_neg h193).symm.trans hv
    refine own_go (fun _ => XS.icmpYes X.here hx rfl (pc0 := 193) (pc' := 225) rfl (hb hby at_193) rfl (XT.ii_le_t h193) (by decide) (by decide)) ?_
    exact b0_225 hw C Z0 rr hP X e0 N K o_b20_b39 o_b39_b81 o_b81_b121 g_b20 z_b20 V_b20 E_b39 F_b39_data F_b39_size V_b81 V_b121 x0 x1 x2 x3 x4 x5 x6 s7 hs7 x9 x10 x11 x12 x14 hv
def f0_188 (c_b39_size : Int32) (v_b81 : List Int32) (v_b121 : List Int32) (x0 : Int32) (x1 : Int32) (x2 : Int32) (x5 : Int32) (x9 : Int32) (x10 : Int32) (x11 : Int32) (x12 : Int32) (t0 : Int32) : Option (Int32) := (f0_190 c_b39_size v_b81 v_b121 x0 x1 x2 x5 x9 x10 x11 x12 t0)
set_option maxRecDepth 65536 in
set_option maxHeartbeats 40000000 in
theorem b0_188 {p : Program} {l : Launch} {e : Env} {s : State} {m : MethodId} {args : Array Value} {below : List Frame} {meth : Method} {c : Code} {Z : State} {a0 : Array Value} {h0 : Heap} {n0 : Nat} {P : Option Value → Heap → List Loc → Prop} (hw : ∀ d ∈ tables_1, d.before a0 Z = true) (C : own_Ctx p s m meth c Z x code maxLocals ret) (Z0 : n0 ≤ h0.size)   (rr : Int32) (hP : ∀ v h L, Fr n0 L → Keep h0 h [] → E0 Z h0  rr v h → P v h L)
    {T : State} {locs : List Loc} {h : Heap} {b20 : Nat} {b39 : Nat} {b81 : Nat} {b121 : Nat} {v_b20 : List Int32} {c_b39_size : Int32} {v_b81 : List Int32} {v_b121 : List Int32} (X : Stand p l e room_1 s m args below meth c T locs 9 1617) (e0 : T.heap = h) (N : Fr n0 locs) (K : Keep h0 h []) (o_b20_b39 : b20 < b39) (o_b39_b81 : b39 < b81) (o_b81_b121 : b81 < b121) (g_b20 : n0 ≤ b20) (z_b20 : h0.size ≤ b20) (V_b20 : own_AI Z h b20 .byte v_b20) (E_b39 : Exa Z h b39 "com/example/objwire/objwire/ndr/NdrWriter") (F_b39_data : Fld Z h b39 "com/example/objwire/objwire/ndr/NdrWriter" "data" "[B" (.ref b81)) (F_b39_size : Fld Z h b39 "com/example/objwire/objwire/ndr/NdrWriter" "size" "I" (.int c_b39_size)) (V_b81 : own_AI Z h b81 .byte v_b81) (V_b121 : own_AI Z h b121 .byte v_b121) (x0 : Int32) (x1 : Int32) (x2 : Int32) (x3 : Int32) (x4 : Int32) (x5 : Int32) (x6 : Int32) (s7 : Slot) (hs7 : One s7) (x9 : Int32) (x10 : Int32) (x11 : Int32) (x12 : Int32) (x14 : Int32) (t0 : Int32) (hv : f0_188 c_b39_size v_b81 v_b121 x0 x1 x2 x5 x9 x10 x11 x12 t0 = some rr) :
    own_WP p e below (own_Q s P room_1.cells room_1.slots) T (mkF m 188 #[.val (.int x0), .val (.int x1), .val (.int x2), .val (.int x3), .val (.int x4), .val (.int x5), .val (.int x6), s7, .val (.ref b39), .val (.int x9), .val (.int x10), .val (.int x11), .val (.int x12), .val (.ref b121), .val (.int x14), .unset] [(.int t0)]) := by
  obtain ⟨hx, hZ, hby, hml, hown, hnm, hret, hlk⟩ := id C
  replace hown : s.vm.findClass "com/example/objwire/objwire/ndr/NdrWriterToByteArrayPinLaw" = some m.cls := hown
  unfold f0_188 at hv
  show own_WP p e below _ T (mkF m 188 #[.val (.int x0), .val (.int x1), .val (.int x2), .val (.int x3), .val (.int x4), .val (.int x5), .val (.int x6), s7, .val (.ref b39), .val (.int x9), .val (.int x10), .val (.int x11), .val (.int x12), .val (.ref b121), .val (.int x14), .unset] [(.int t0)])
  refine own_go (fun _ => XS.istore X.here hx rfl (hb hby at_188) rfl (l' := #[.val (.int x0), .val (.int x1), .val (.int x2), .val (.int x3), .val (.int x4), .val (.int x5), .val (.int x6), s7, .val (.ref b39), .val (.int x9), .val (.int x10), .val (.int x11), .val (.int x12), .val (.ref b121), .val (.int t0), .unset]) rfl) ?_
  exact b0_190 hw C Z0 rr hP X e0 N K o_b20_b39 o_b39_b81 o_b81_b121 g_b20 z_b20 V_b20 E_b39 F_b39_data F_b39_size V_b81 V_b121 x0 x1 x2 x3 x4 x5 x6 s7 hs7 x9 x10 x11 x12 t0 hv
def f0_187 (c_b39_size : Int32) (v_b81 : List Int32) (v_b121 : List Int32) (x0 : Int32) (x1 : Int32) (x2 : Int32) (x5 : Int32) (x9 : Int32) (x10 : Int32) (x11 : Int32) (x12 : Int32) : Option (Int32) := (f0_188 c_b39_size v_b81 v_b121 x0 x1 x2 x5 x9 x10 x11 x12 (0 : Int32))
set_option maxRecDepth 65536 in
set_option maxHeartbeats 40000000 in
theorem b0_187 {p : Program} {l : Launch} {e : Env} {s : State} {m : MethodId} {args : Array Value} {below : List Frame} {meth : Method} {c : Code} {Z : State} {a0 : Array Value} {h0 : Heap} {n0 : Nat} {P : Option Value → Heap → List Loc → Prop} (hw : ∀ d ∈ tables_1, d.before a0 Z = true) (C : own_Ctx p s m meth c Z x code maxLocals ret) (Z0 : n0 ≤ h0.size)   (rr : Int32) (hP : ∀ v h L, Fr n0 L → Keep h0 h [] → E0 Z h0  rr v h → P v h L)
    {T : State} {locs : List Loc} {h : Heap} {b20 : Nat} {b39 : Nat} {b81 : Nat} {b121 : Nat} {v_b20 : List Int32} {c_b39_size : Int32} {v_b81 : List Int32} {v_b121 : List Int32} (X : Stand p l e room_1 s m args below meth c T locs 9 1617) (e0 : T.heap = h) (N : Fr n0 locs) (K : Keep h0 h []) (o_b20_b39 : b20 < b39) (o_b39_b81 : b39 < b81) (o_b81_b121 : b81 < b121) (g_b20 : n0 ≤ b20) (z_b20 : h0.size ≤ b20) (V_b20 : own_AI Z h b20 .byte v_b20) (E_b39 : Exa Z h b39 "com/example/objwire/objwire/ndr/NdrWriter") (F_b39_data : Fld Z h b39 "com/example/objwire/objwire/ndr/NdrWriter" "data" "[B" (.ref b81)) (F_b39_size : Fld Z h b39 "com/example/objwire/objwire/ndr/NdrWriter" "size" "I" (.int c_b39_size)) (V_b81 : own_AI Z h b81 .byte v_b81) (V_b121 : own_AI Z h b121 .byte v_b121) (x0 : Int32) (x1 : Int32) (x2 : Int32) (x3 : Int32) (x4 : Int32) (x5 : Int32) (x6 : Int32) (s7 : Slot) (hs7 : One s7) (x9 : Int32) (x10 : Int32) (x11 : Int32) (x12 : Int32) (x14 : Int32) (hv : f0_187 c_b39_size v_b81 v_b121 x0 x1 x2 x5 x9 x10 x11 x12 = some rr) :
    own_WP p e below (own_Q s P room_1.cells room_1.slots) T (mkF m 187 #[.val (.int x0), .val (.int x1), .val (.int x2), .val (.int x3), .val (.int x4), .val (.int x5), .val (.int x6), s7, .val (.ref b39), .val (.int x9), .val (.int x10), .val (.int x11), .val (.int x12), .val (.ref b121), .val (.int x14), .unset] []) := by
  obtain ⟨hx, hZ, hby, hml, hown, hnm, hret, hlk⟩ := id C
  replace hown : s.vm.findClass "com/example/objwire/objwire/ndr/NdrWriterToByteArrayPinLaw" = some m.cls := hown
  unfold f0_187 at hv
  show own_WP p e below _ T (mkF m 187 #[.val (.int x0), .val (.int x1), .val (.int x2), .val (.int x3), .val (.int x4), .val (.int x5), .val (.int x6), s7, .val (.ref b39), .val (.int x9), .val (.int x10), .val (.int x11), .val (.int x12), .val (.ref b121), .val (.int x14), .unset] [])
  refine own_go (fun _ => XS.iconst X.here hx rfl (hb hby at_187)) ?_
  exact b0_188 hw C Z0 rr hP X e0 N K o_b20_b39 o_b39_b81 o_b81_b121 g_b20 z_b20 V_b20 E_b39 F_b39_data F_b39_size V_b81 V_b121 x0 x1 x2 x3 x4 x5 x6 s7 hs7 x9 x10 x11 x12 x14 (0 : Int32) hv
def f0_160 (c_b39_size : Int32) (v_b81 : List Int32) (v_b121 : List Int32) (x0 : Int32) (x1 : Int32) (x2 : Int32) (x4 : Int32) (x5 : Int32) (x9 : Int32) (x10 : Int32) (x11 : Int32) (x12 : Int32) (t0 : Int32) : Option (Int32) := (if (0 : Int32) < x5 then (if t0 = (0 : Int32) then (f0_187 c_b39_size v_b81 v_b121 x0 x1 x2 x5 x9 x10 x11 x12) else ((own_get v_b121 x5).bind fun w37 => (if w37 = (x4.toInt8.toInt32) then (f0_188 c_b39_size v_b81 v_b121 x0 x1 x2 x5 x9 x10 x11 x12 (1 : Int32)) else (f0_187 c_b39_size v_b81 v_b121 x0 x1 x2 x5 x9 x10 x11 x12)))) else (f0_190 c_b39_size v_b81 v_b121 x0 x1 x2 x5 x9 x10 x11 x12 t0))
set_option maxRecDepth 65536 in
set_option maxHeartbeats 40000000 in
theorem b0_160 {p : Program} {l : Launch} {e : Env} {s : State} {m : MethodId} {args : Array Value} {below : List Frame} {meth : Method} {c : Code} {Z : State} {a0 : Array Value} {h0 : Heap} {n0 : Nat} {P : Option Value → Heap → List Loc → Prop} (hw : ∀ d ∈ tables_1, d.before a0 Z = true) (C : own_Ctx p s m meth c Z x code maxLocals ret) (Z0 : n0 ≤ h0.size)   (rr : Int32) (hP : ∀ v h L, Fr n0 L → Keep h0 h [] → E0 Z h0  rr v h → P v h L)
    {T : State} {locs : List Loc} {h : Heap} {b20 : Nat} {b39 : Nat} {b81 : Nat} {b121 : Nat} {v_b20 : List Int32} {c_b39_size : Int32} {v_b81 : List Int32} {v_b121 : List Int32} (X : Stand p l e room_1 s m args below meth c T locs 9 1617) (e0 : T.heap = h) (N : Fr n0 locs) (K : Keep h0 h []) (o_b20_b39 : b20 < b39) (o_b39_b81 : b39 < b81) (o_b81_b121 : b81 < b121) (g_b20 : n0 ≤ b20) (z_b20 : h0.size ≤ b20) (V_b20 : own_AI Z h b20 .byte v_b20) (E_b39 : Exa Z h b39 "com/example/objwire/objwire/ndr/NdrWriter") (F_b39_data : Fld Z h b39 "com/example/objwire/objwire/ndr/NdrWriter" "data" "[B" (.ref b81)) (F_b39_size : Fld Z h b39 "com/example/objwire/objwire/ndr/NdrWriter" "size" "I" (.int c_b39_size)) (V_b81 : own_AI Z h b81 .byte v_b81) (V_b121 : own_AI Z h b121 .byte v_b121) (x0 : Int32) (x1 : Int32) (x2 : Int32) (x3 : Int32) (x4 : Int32) (x5 : Int32) (x6 : Int32) (s7 : Slot) (hs7 : One s7) (x9 : Int32) (x10 : Int32) (x11 : Int32) (x12 : Int32) (t0 : Int32) (hv : f0_160 c_b39_size v_b81 v_b121 x0 x1 x2 x4 x5 x9 x10 x11 x12 t0 = some rr) :
    own_WP p e below (own_Q s P room_1.cells room_1.slots) T (mkF m 160 #[.val (.int x0), .val (.int x1), .val (.int x2), .val (.int x3), .val (.int x4), .val (.int x5), .val (.int x6), s7, .val (.ref b39), .val (.int x9), .val (.int x10), .val (.int x11), .val (.int x12), .val (.ref b121), .unset, .unset] [(.int t0)]) := by
  obtain ⟨hx, hZ, hby, hml, hown, hnm, hret, hlk⟩ := id C
  replace hown : s.vm.findClass "com/example/objwire/objwire/ndr/NdrWriterToByteArrayPinLaw" = some m.cls := hown
  unfold f0_160 at hv
  show own_WP p e below _ T (mkF m 160 #[.val (.int x0), .val (.int x1), .val (.int x2), .val (.int x3), .val (.int x4), .val (.int x5), .val (.int x6), s7, .val (.ref b39), .val (.int x9), .val (.int x10), .val (.int x11), .val (.int x12), .val (.ref b121), .unset, .unset] [(.int t0)])
  refine own_go (fun _ => XS.istore X.here hx rfl (hb hby at_160) rfl (l' := #[.val (.int x0), .val (.int x1), .val (.int x2), .val (.int x3), .val (.int x4), .val (.int x5), .val (.int x6), s7, .val (.ref b39), .val (.int x9), .val (.int x10), .val (.int x11), .val (.int x12), .val (.ref b121), .val (.int t0), .unset]) rfl) ?_
  show own_WP p e below _ T (mkF m 162 #[.val (.int x0), .val (.int x1), .val (.int x2), .val (.int x3), .val (.int x4), .val (.int x5), .val (.int x6), s7, .val (.ref b39), .val (.int x9), .val (.int x10), .val (.int x11), .val (.int x12), .val (.ref b121), .val (.int t0), .unset] [])
  refine own_go (fun _ => XS.iload X.here hx rfl (hb hby at_162) rfl) ?_
  show own_WP p e below _ T (mkF m 164 #[.val (.int x0), .val (.int x1), .val (.int x2), .val (.int x3), .val (.int x4), .val (.int x5), .val (.int x6), s7, .val (.ref b39), .val (.int x9), .val (.int x10), .val (.int x11), .val (.int x12), .val (.ref b121), .val (.int t0), .unset] [(.int x5)])
  by_cases h164 : (0 : Int32) < x5
  · replace hv := (if_pos h164).symm.trans hv
    refine own_go (fun _ => XS.ifNo X.here hx rfl (hb hby at_164) rfl (XT.i0_le_f h164)) ?_
    show own_WP p e below _ T (mkF m 167 #[.val (.int x0), .val (.int x1), .val (.int x2), .val (.int x3), .val (.int x4), .val (.int x5), .val (.int x6), s7, .val (.ref b39), .val (.int x9), .val (.int x10), .val (.int x11), .val (.int x12), .val (.ref b121), .val (.int t0), .unset] [])
    refine own_go (fun _ => XS.iload X.here hx rfl (hb hby at_167) rfl) ?_
    show own_WP p e below _ T (mkF m 169 #[.val (.int x0), .val (.int x1), .val (.int x2), .val (.int x3), .val (.int x4), .val (.int x5), .val (.int x6), s7, .val (.ref b39), .val (.int x9), .val (.int x10), .val (.int x11), .val (.int x12), .val (.ref b121), .val (.int t0), .unset] [(.int t0)])
    by_cases h169 : t0 = (0 : Int32)
    · replace hv := (if_pos h169).symm.trans hv
      refine own_go (fun _ => XS.ifYes X.here hx rfl (pc0 := 169) (pc' := 187) rfl (hb hby at_169) rfl (XT.i0_eq_t h169) (by decide) (by decide)) ?_
      exact b0_187 hw C Z0 rr hP X e0 N K o_b20_b39 o_b39_b81 o_b81_b121 g_b20 z_b20 V_b20 E_b39 F_b39_data F_b39_size V_b81 V_b121 x0 x1 x2 x3 x4 x5 x6 s7 hs7 x9 x10 x11 x12 t0 hv
    · replace hv := (if_neg h169).symm.trans hv
      refine own_go (fun _ => XS.ifNo X.here hx rfl (hb hby at_169) rfl (XT.i0_eq_f h169)) ?_
      show own_WP p e below _ T (mkF m 172 #[.val (.int x0), .val (.int x1), .val (.int x2), .val (.int x3), .val (.int x4), .val (.int x5), .val (.int x6), s7, .val (.ref b39), .val (.int x9), .val (.int x10), .val (.int x11), .val (.int x12), .val (.ref b121), .val (.int t0), .unset] [])
      refine own_go (fun _ => XS.aload X.here hx rfl (hb hby at_172) rfl rfl) ?_
      show own_WP p e below _ T (mkF m 174 #[.val (.int x0), .val (.int x1), .val (.int x2), .val (.int x3), .val (.int x4), .val (.int x5), .val (.int x6), s7, .val (.ref b39), .val (.int x9), .val (.int x10), .val (.int x11), .val (.int x12), .val (.ref b121), .val (.int t0), .unset] [(.ref b121)])
      refine own_go (fun _ => XS.iload X.here hx rfl (hb hby at_174) rfl) ?_
      show own_WP p e below _ T (mkF m 176 #[.val (.int x0), .val (.int x1), .val (.int x2), .val (.int x3), .val (.int x4), .val (.int x5), .val (.int x6), s7, .val (.ref b39), .val (.int x9), .val (.int x10), .val (.int x11), .val (.int x12), .val (.ref b121), .val (.int t0), .unset] [(.int x5), (.ref b121)])
      obtain ⟨w37, hg37, hv⟩ := own_bind hv
      refine own_go (own_baload X C e0 V_b121 hg37 (hb hby at_176)) ?_
      show own_WP p e below _ T (mkF m 177 #[.val (.int x0), .val (.int x1), .val (.int x2), .val (.int x3), .val (.int x4), .val (.int x5), .val (.int x6), s7, .val (.ref b39), .val (.int x9), .val (.int x10), .val (.int x11), .val (.int x12), .val (.ref b121), .val (.int t0), .unset] [(.int w37)])
      refine own_go (fun _ => XS.iload X.here hx rfl (hb hby at_177) rfl) ?_
      show own_WP p e below _ T (mkF m 179 #[.val (.int x0), .val (.int x1), .val (.int x2), .val (.int x3), .val (.int x4), .val (.int x5), .val (.int x6), s7, .val (.ref b39), .val (.int x9), .val (.int x10), .val (.int x11), .val (.int x12), .val (.ref b121), .val (.int t0), .unset] [(.int x4), (.int w37)])
      refine own_go (fun _ => XS.i2b X.here hx rfl (hb hby at_179) rfl) ?_
      show own_WP p e below _ T (mkF m 180 #[.val (.int x0), .val (.int x1), .val (.int x2), .val (.int x3), .val (.int x4), .val (.int x5), .val (.int x6), s7, .val (.ref b39), .val (.int x9), .val (.int x10), .val (.int x11), .val (.int x12), .val (.ref b121), .val (.int t0), .unset] [(.int (x4.toInt8.toInt32)), (.int w37)])
      by_cases h180 : w37 = (x4.toInt8.toInt32)
      · replace hv := (if_pos h180).symm.trans hv
        refine own_go (fun _ => XS.icmpNo X.here hx rfl (hb hby at_180) rfl (XT.ii_ne_f h180)) ?_
        show own_WP p e below _ T (mkF m 183 #[.val (.int x0), .val (.int x1), .val (.int x2), .val (.int x3), .val (.int x4), .val (.int x5), .val (.int x6), s7, .val (.ref b39), .val (.int x9), .val (.int x10), .val (.int x11), .val (.int x12), .val (.ref b121), .val (.int t0), .unset] [])
        refine own_go (fun _ => XS.iconst X.here hx rfl (hb hby at_183)) ?_
        show own_WP p e below _ T (mkF m 184 #[.val (.int x0), .val (.int x1), .val (.int x2), .val (.int x3), .val (.int x4), .val (.int x5), .val (.int x6), s7, .val (.ref b39), .val (.int x9), .val (.int x10), .val (.int x11), .val (.int x12), .val (.ref b121), .val (.int t0), .unset] [(.int (1 : Int32))])
        refine own_go (fun _ => XS.goto X.here hx rfl (pc0 := 184) (pc' := 188) rfl (hb hby at_184) (by decide) (by decide)) ?_
        exact b0_188 hw C Z0 rr hP X e0 N K o_b20_b39 o_b39_b81 o_b81_b121 g_b20 z_b20 V_b20 E_b39 F_b39_data F_b39_size V_b81 V_b121 x0 x1 x2 x3 x4 x5 x6 s7 hs7 x9 x10 x11 x12 t0 (1 : Int32) hv
      · replace hv := (if_neg h180).symm.trans hv
        refine own_go (fun _ => XS.icmpYes X.here hx rfl (pc0 := 180) (pc' := 187) rfl (hb hby at_180) rfl (XT.ii_ne_t h180) (by decide) (by decide)) ?_
        exact b0_187 hw C Z0 rr hP X e0 N K o_b20_b39 o_b39_b81 o_b81_b121 g_b20 z_b20 V_b20 E_b39 F_b39_data F_b39_size V_b81 V_b121 x0 x1 x2 x3 x4 x5 x6 s7 hs7 x9 x10 x11 x12 t0 hv
  · replace hv := (if_neg h164).symm.trans hv
    refine own_go (fun _ => XS.ifYes X.here hx rfl (pc0 := 164) (pc' := 190) rfl (hb hby at_164) rfl (XT.i0_le_t h164) (by decide) (by decide)) ?_
    exact b0_190 hw C Z0 rr hP X e0 N K o_b20_b39 o_b39_b81 o_b81_b121 g_b20 z_b20 V_b20 E_b39 F_b39_data F_b39_size V_b81 V_b121 x0 x1 x2 x3 x4 x5 x6 s7 hs7 x9 x10 x11 x12 t0 hv
def f0_146 (c_b39_size : Int32) (v_b81 : List Int32) (v_b121 : List Int32) (x0 : Int32) (x1 : Int32) (x2 : Int32) (x4 : Int32) (x5 : Int32) (x9 : Int32) (x10 : Int32) (x11 : Int32) (x12 : Int32) : Option (Int32) := ((own_get v_b121 (0 : Int32)).bind fun w14 => (if w14 = (x0.toInt8.toInt32) then (f0_160 c_b39_size v_b81 v_b121 x0 x1 x2 x4 x5 x9 x10 x11 x12 (1 : Int32)) else (f0_160 c_b39_size v_b81 v_b121 x0 x1 x2 x4 x5 x9 x10 x11 x12 (0 : Int32))))
set_option maxRecDepth 65536 in
set_option maxHeartbeats 40000000 in
theorem b0_146 {p : Program} {l : Launch} {e : Env} {s : State} {m : MethodId} {args : Array Value} {below : List Frame} {meth : Method} {c : Code} {Z : State} {a0 : Array Value} {h0 : Heap} {n0 : Nat} {P : Option Value → Heap → List Loc → Prop} (hw : ∀ d ∈ tables_1, d.before a0 Z = true) (C : own_Ctx p s m meth c Z x code maxLocals ret) (Z0 : n0 ≤ h0.size)   (rr : Int32) (hP : ∀ v h L, Fr n0 L → Keep h0 h [] → E0 Z h0  rr v h → P v h L)
    {T : State} {locs : List Loc} {h : Heap} {b20 : Nat} {b39 : Nat} {b81 : Nat} {b121 : Nat} {v_b20 : List Int32} {c_b39_size : Int32} {v_b81 : List Int32} {v_b121 : List Int32} (X : Stand p l e room_1 s m args below meth c T locs 9 1617) (e0 : T.heap = h) (N : Fr n0 locs) (K : Keep h0 h []) (o_b20_b39 : b20 < b39) (o_b39_b81 : b39 < b81) (o_b81_b121 : b81 < b121) (g_b20 : n0 ≤ b20) (z_b20 : h0.size ≤ b20) (V_b20 : own_AI Z h b20 .byte v_b20) (E_b39 : Exa Z h b39 "com/example/objwire/objwire/ndr/NdrWriter") (F_b39_data : Fld Z h b39 "com/example/objwire/objwire/ndr/NdrWriter" "data" "[B" (.ref b81)) (F_b39_size : Fld Z h b39 "com/example/objwire/objwire/ndr/NdrWriter" "size" "I" (.int c_b39_size)) (V_b81 : own_AI Z h b81 .byte v_b81) (V_b121 : own_AI Z h b121 .byte v_b121) (x0 : Int32) (x1 : Int32) (x2 : Int32) (x3 : Int32) (x4 : Int32) (x5 : Int32) (x6 : Int32) (s7 : Slot) (hs7 : One s7) (x9 : Int32) (x10 : Int32) (x11 : Int32) (x12 : Int32) (hv : f0_146 c_b39_size v_b81 v_b121 x0 x1 x2 x4 x5 x9 x10 x11 x12 = some rr) :
    own_WP p e below (own_Q s P room_1.cells room_1.slots) T (mkF m 146 #[.val (.int x0), .val (.int x1), .val (.int x2), .val (.int x3), .val (.int x4), .val (.int x5), .val (.int x6), s7, .val (.ref b39), .val (.int x9), .val (.int x10), .val (.int x11), .val (.int x12), .val (.ref b121), .unset, .unset] []) := by
  obtain ⟨hx, hZ, hby, hml, hown, hnm, hret, hlk⟩ := id C
  replace hown : s.vm.findClass "com/example/objwire/objwire/ndr/NdrWriterToByteArrayPinLaw" = some m.cls := hown
  unfold f0_146 at hv
  show own_WP p e below _ T (mkF m 146 #[.val (.int x0), .val (.int x1), .val (.int x2), .val (.int x3), .val (.int x4), .val (.int x5), .val (.int x6), s7, .val (.ref b39), .val (.int x9), .val (.int x10), .val (.int x11), .val (.int x12), .val (.ref b121), .unset, .unset] [])
  refine own_go (fun _ => XS.aload X.here hx rfl (hb hby at_146) rfl rfl) ?_
  show own_WP p e below _ T (mkF m 148 #[.val (.int x0), .val (.int x1), .val (.int x2), .val (.int x3), .val (.int x4), .val (.int x5), .val (.int x6), s7, .val (.ref b39), .val (.int x9), .val (.int x10), .val (.int x11), .val (.int x12), .val (.ref b121), .unset, .unset] [(.ref b121)])
  refine own_go (fun _ => XS.iconst X.here hx rfl (hb hby at_148)) ?_
  show own_WP p e below _ T (mkF m 149 #[.val (.int x0), .val (.int x1), .val (.int x2), .val (.int x3), .val (.int x4), .val (.int x5), .val (.int x6), s7, .val (.ref b39), .val (.int x9), .val (.int x10), .val (.int x11), .val (.int x12), .val (.ref b121), .unset, .unset] [(.int (0 : Int32)), (.ref b121)])
  obtain ⟨w14, hg14, hv⟩ := own_bind hv
  refine own_go (own_baload X C e0 V_b121 hg14 (hb hby at_149)) ?_
  show own_WP p e below _ T (mkF m 150 #[.val (.int x0), .val (.int x1), .val (.int x2), .val (.int x3), .val (.int x4), .val (.int x5), .val (.int x6), s7, .val (.ref b39), .val (.int x9), .val (.int x10), .val (.int x11), .val (.int x12), .val (.ref b121), .unset, .unset] [(.int w14)])
  refine own_go (fun _ => XS.iloadN X.here hx rfl (hb hby at_150) rfl) ?_
  show own_WP p e below _ T (mkF m 151 #[.val (.int x0), .val (.int x1), .val (.int x2), .val (.int x3), .val (.int x4), .val (.int x5), .val (.int x6), s7, .val (.ref b39), .val (.int x9), .val (.int x10), .val (.int x11), .val (.int x12), .val (.ref b121), .unset, .unset] [(.int x0), (.int w14)])
  refine own_go (fun _ => XS.i2b X.here hx rfl (hb hby at_151) rfl) ?_
  show own_WP p e below _ T (mkF m 152 #[.val (.int x0), .val (.int x1), .val (.int x2), .val (.int x3), .val (.int x4), .val (.int x5), .val (.int x6), s7, .val (.ref b39), .val (.int x9), .val (.int x10), .val (.int x11), .val (.int x12), .val (.ref b121), .unset, .unset] [(.int (x0.toInt8.toInt32)), (.int w14)])
  by_cases h152 : w14 = (x0.toInt8.toInt32)
  · replace hv := (if_pos h152).symm.trans hv
    refine own_go (fun _ => XS.icmpNo X.here hx rfl (hb hby at_152) rfl (XT.ii_ne_f h152)) ?_
    show own_WP p e below _ T (mkF m 155 #[.val (.int x0), .val (.int x1), .val (.int x2), .val (.int x3), .val (.int x4), .val (.int x5), .val (.int x6), s7, .val (.ref b39), .val (.int x9), .val (.int x10), .val (.int x11), .val (.int x12), .val (.ref b121), .unset, .unset] [])
    refine own_go (fun _ => XS.iconst X.here hx rfl (hb hby at_155)) ?_
    show own_WP p e below _ T (mkF m 156 #[.val (.int x0), .val (.int x1), .val (.int x2), .val (.int x3), .val (.int x4), .val (.int x5), .val (.int x6), s7, .val (.ref b39), .val (.int x9), .val (.int x10), .val (.int x11), .val (.int x12), .val (.ref b121), .unset, .unset] [(.int (1 : Int32))])
    refine own_go (fun _ => XS.goto X.here hx rfl (pc0 := 156) (pc' := 160) rfl (hb hby at_156) (by decide) (by decide)) ?_
    exact b0_160 hw C Z0 rr hP X e0 N K o_b20_b39 o_b39_b81 o_b81_b121 g_b20 z_b20 V_b20 E_b39 F_b39_data F_b39_size V_b81 V_b121 x0 x1 x2 x3 x4 x5 x6 s7 hs7 x9 x10 x11 x12 (1 : Int32) hv
  · replace hv := (if_neg h152).symm.trans hv
    refine own_go (fun _ => XS.icmpYes X.here hx rfl (pc0 := 152) (pc' := 159) rfl (hb hby at_152) rfl (XT.ii_ne_t h152) (by decide) (by decide)) ?_
    show own_WP p e below _ T (mkF m 159 #[.val (.int x0), .val (.int x1), .val (.int x2), .val (.int x3), .val (.int x4), .val (.int x5), .val (.int x6), s7, .val (.ref b39), .val (.int x9), .val (.int x10), .val (.int x11), .val (.int x12), .val (.ref b121), .unset, .unset] [])
    refine own_go (fun _ => XS.iconst X.here hx rfl (hb hby at_159)) ?_
    exact b0_160 hw C Z0 rr hP X e0 N K o_b20_b39 o_b39_b81 o_b81_b121 g_b20 z_b20 V_b20 E_b39 F_b39_data F_b39_size V_b81 V_b121 x0 x1 x2 x3 x4 x5 x6 s7 hs7 x9 x10 x11 x12 (0 : Int32) hv
def f0_85 (c_b39_size : Int32) (v_b81 : List Int32) (x0 : Int32) (x1 : Int32) (x2 : Int32) (x4 : Int32) (x5 : Int32) (x6 : Int32) : Option (Int32) := (if x6 = (0 : Int32) then none else (own_let ((((((5 : Int32) + x5) + x6) - (1 : Int32)) / x6) * x6) fun y11 => ((f9_0 c_b39_size v_b81).bind fun rr12 => (if (Int32.ofNat rr12.length) = (y11 + (2 : Int32)) then ((f12_0 c_b39_size).bind fun rr13 => (if rr13 = (y11 + (2 : Int32)) then (f0_146 c_b39_size v_b81 rr12 x0 x1 x2 x4 x5 ((5 : Int32) + x5) y11 (y11 - ((5 : Int32) + x5)) (y11 + (2 : Int32))) else (some (0 : Int32)))) else (some (0 : Int32))))))
set_option maxRecDepth 65536 in
set_option maxHeartbeats 40000000 in
theorem b0_85 {p : Program} {l : Launch} {e : Env} {s : State} {m : MethodId} {args : Array Value} {below : List Frame} {meth : Method} {c : Code} {Z : State} {a0 : Array Value} {h0 : Heap} {n0 : Nat} {P : Option Value → Heap → List Loc → Prop} (hw : ∀ d ∈ tables_1, d.before a0 Z = true) (C : own_Ctx p s m meth c Z x code maxLocals ret) (Z0 : n0 ≤ h0.size)   (rr : Int32) (hP : ∀ v h L, Fr n0 L → Keep h0 h [] → E0 Z h0  rr v h → P v h L)
    {T : State} {locs : List Loc} {h : Heap} {b20 : Nat} {b39 : Nat} {b81 : Nat} {v_b20 : List Int32} {c_b39_size : Int32} {v_b81 : List Int32} (X : Stand p l e room_1 s m args below meth c T locs 8 1473) (e0 : T.heap = h) (N : Fr n0 locs) (K : Keep h0 h []) (o_b20_b39 : b20 < b39) (o_b39_b81 : b39 < b81) (g_b20 : n0 ≤ b20) (z_b20 : h0.size ≤ b20) (V_b20 : own_AI Z h b20 .byte v_b20) (E_b39 : Exa Z h b39 "com/example/objwire/objwire/ndr/NdrWriter") (F_b39_data : Fld Z h b39 "com/example/objwire/objwire/ndr/NdrWriter" "data" "[B" (.ref b81)) (F_b39_size : Fld Z h b39 "com/example/objwire/objwire/ndr/NdrWriter" "size" "I" (.int c_b39_size)) (V_b81 : own_AI Z h b81 .byte v_b81) (x0 : Int32) (x1 : Int32) (x2 : Int32) (x3 : Int32) (x4 : Int32) (x5 : Int32) (x6 : Int32) (s7 : Slot) (hs7 : One s7) (hv : f0_85 c_b39_size v_b81 x0 x1 x2 x4 x5 x6 = some rr) :
    own_WP p e below (own_Q s P room_1.cells room_1.slots) T (mkF m 85 #[.val (.int x0), .val (.int x1), .val (.int x2), .val (.int x3), .val (.int x4), .val (.int x5), .val (.int x6), s7, .val (.ref b39), .unset, .unset, .unset, .unset, .unset, .unset, .unset] []) := by
  obtain ⟨hx, hZ, hby, hml, hown, hnm, hret, hlk⟩ := id C
  replace hown : s.vm.findClass "com/example/objwire/objwire/ndr/NdrWriterToByteArrayPinLaw" = some m.cls := hown
  unfold f0_85 at hv
  show own_WP p e below _ T (mkF m 85 #[.val (.int x0), .val (.int x1), .val (.int x2), .val (.int x3), .val (.int x4), .val (.int x5), .val (.int x6), s7, .val (.ref b39), .unset, .unset, .unset, .unset, .unset, .unset, .unset] [])
  refine own_go (fun _ => XS.iconst X.here hx rfl (hb hby at_85)) ?_
  show own_WP p e below _ T (mkF m 86 #[.val (.int x0), .val (.int x1), .val (.int x2), .val (.int x3), .val (.int x4), .val (.int x5), .val (.int x6), s7, .val (.ref b39), .unset, .unset, .unset, .unset, .unset, .unset, .unset] [(.int (5 : Int32))])
  refine own_go (fun _ => XS.iload X.here hx rfl (hb hby at_86) rfl) ?_
  show own_WP p e below _ T (mkF m 88 #[.val (.int x0), .val (.int x1), .val (.int x2), .val (.int x3), .val (.int x4), .val (.int x5), .val (.int x6), s7, .val (.ref b39), .unset, .unset, .unset, .unset, .unset, .unset, .unset] [(.int x5), (.int (5 : Int32))])
  refine own_go (fun _ => XS.iadd X.here hx rfl (hb hby at_88) rfl) ?_
  show own_WP p e below _ T (mkF m 89 #[.val (.int x0), .val (.int x1), .val (.int x2), .val (.int x3), .val (.int x4), .val (.int x5), .val (.int x6), s7, .val (.ref b39), .unset, .unset, .unset, .unset, .unset, .unset, .unset] [(.int ((5 : Int32) + x5))])
  refine own_go (fun _ => XS.istore X.here hx rfl (hb hby at_89) rfl (l' := #[.val (.int x0), .val (.int x1), .val (.int x2), .val (.int x3), .val (.int x4), .val (.int x5), .val (.int x6), s7, .val (.ref b39), .val (.int ((5 : Int32) + x5)), .unset, .unset, .unset, .unset, .unset, .unset]) rfl) ?_
  show own_WP p e below _ T (mkF m 91 #[.val (.int x0), .val (.int x1), .val (.int x2), .val (.int x3), .val (.int x4), .val (.int x5), .val (.int x6), s7, .val (.ref b39), .val (.int ((5 : Int32) + x5)), .unset, .unset, .unset, .unset, .unset, .unset] [])
  refine own_go (fun _ => XS.iload X.here hx rfl (hb hby at_91) rfl) ?_
  show own_WP p e below _ T (mkF m 93 #[.val (.int x0), .val (.int x1), .val (.int x2), .val (.int x3), .val (.int x4), .val (.int x5), .val (.int x6), s7, .val (.ref b39), .val (.int ((5 : Int32) + x5)), .unset, .unset, .unset, .unset, .unset, .unset] [(.int ((5 : Int32) + x5))])
  refine own_go (fun _ => XS.iload X.here hx rfl (hb hby at_93) rfl) ?_
  show own_WP p e below _ T (mkF m 95 #[.val (.int x0), .val (.int x1), .val (.int x2), .val (.int x3), .val (.int x4), .val (.int x5), .val (.int x6), s7, .val (.ref b39), .val (.int ((5 : Int32) + x5)), .unset, .unset, .unset, .unset, .unset, .unset] [(.int x6), (.int ((5 : Int32) + x5))])
  refine own_go (fun _ => XS.iadd X.here hx rfl (hb hby at_95) rfl) ?_
  show own_WP p e below _ T (mkF m 96 #[.val (.int x0), .val (.int x1), .val (.int x2), .val (.int x3), .val (.int x4), .val (.int x5), .val (.int x6), s7, .val (.ref b39), .val (.int ((5 : Int32) + x5)), .unset, .unset, .unset, .unset, .unset, .unset] [(.int (((5 : Int32) + x5) + x6))])
  refine own_go (fun _ => XS.iconst X.here hx rfl (hb hby at_96)) ?_
  show own_WP p e below _ T (mkF m 97 #[.val (.int x0), .val (.int x1), .val (.int x2), .val (.int x3), .val (.int x4), .val (.int x5), .val (.int x6), s7, .val (.ref b39), .val (.int ((5 : Int32) + x5)), .unset, .unset, .unset, .unset, .unset, .unset] [(.int (1 : Int32)), (.int (((5 : Int32) + x5) + x6))])
  refine own_go (fun _ => XS.isub X.here hx rfl (hb hby at_97) rfl) ?_
  show own_WP p e below _ T (mkF m 98 #[.val (.int x0), .val (.int x1), .val (.int x2), .val (.int x3), .val (.int x4), .val (.int x5), .val (.int x6), s7, .val (.ref b39), .val (.int ((5 : Int32) + x5)), .unset, .unset, .unset, .unset, .unset, .unset] [(.int ((((5 : Int32) + x5) + x6) - (1 : Int32)))])
  refine own_go (fun _ => XS.iload X.here hx rfl (hb hby at_98) rfl) ?_
  show own_WP p e below _ T (mkF m 100 #[.val (.int x0), .val (.int x1), .val (.int x2), .val (.int x3), .val (.int x4), .val (.int x5), .val (.int x6), s7, .val (.ref b39), .val (.int ((5 : Int32) + x5)), .unset, .unset, .unset, .unset, .unset, .unset] [(.int x6), (.int ((((5 : Int32) + x5) + x6) - (1 : Int32)))])
  by_cases h100 : x6 = (0 : Int32)
  · cases ((if_pos h100).symm.trans hv)
  replace hv := (if_neg h100).symm.trans hv
  refine own_go (fun _ => XS.idiv X.here hx rfl (hb hby at_100) rfl h100) ?_
  show own_WP p e below _ T (mkF m 101 #[.val (.int x0), .val (.int x1), .val (.int x2), .val (.int x3), .val (.int x4), .val (.int x5), .val (.int x6), s7, .val (.ref b39), .val (.int ((5 : Int32) + x5)), .unset, .unset, .unset, .unset, .unset, .unset] [(.int (((((5 : Int32) + x5) + x6) - (1 : Int32)) / x6))])
  refine own_go (fun _ => XS.iload X.here hx rfl (hb hby at_101) rfl) ?_
  show own_WP p e below _ T (mkF m 103 #[.val (.int x0), .val (.int x1), .val (.int x2), .val (.int x3), .val (.int x4), .val (.int x5), .val (.int x6), s7, .val (.ref b39), .val (.int ((5 : Int32) + x5)), .unset, .unset, .unset, .unset, .unset, .unset] [(.int x6), (.int (((((5 : Int32) + x5) + x6) - (1 : Int32)) / x6))])
  refine own_go (fun _ => XS.imul X.here hx rfl (hb hby at_103) rfl) ?_
  show own_WP p e below _ T (mkF m 104 #[.val (.int x0), .val (.int x1), .val (.int x2), .val (.int x3), .val (.int x4), .val (.int x5), .val (.int x6), s7, .val (.ref b39), .val (.int ((5 : Int32) + x5)), .unset, .unset, .unset, .unset, .unset, .unset] [(.int ((((((5 : Int32) + x5) + x6) - (1 : Int32)) / x6) * x6))])
  generalize ((((((5 : Int32) + x5) + x6) - (1 : Int32)) / x6) * x6) = y11 at hv ⊢
  replace hv := own_letE hv
  show own_WP p e below _ T (mkF m 104 #[.val (.int x0), .val (.int x1), .val (.int x2), .val (.int x3), .val (.int x4), .val (.int x5), .val (.int x6), s7, .val (.ref b39), .val (.int ((5 : Int32) + x5)), .unset, .unset, .unset, .unset, .unset, .unset] [(.int y11)])
  refine own_go (fun _ => XS.istore X.here hx rfl (hb hby at_104) rfl (l' := #[.val (.int x0), .val (.int x1), .val (.int x2), .val (.int x3), .val (.int x4), .val (.int x5), .val (.int x6), s7, .val (.ref b39), .val (.int ((5 : Int32) + x5)), .val (.int y11), .unset, .unset, .unset, .unset, .unset]) rfl) ?_
  show own_WP p e below _ T (mkF m 106 #[.val (.int x0), .val (.int x1), .val (.int x2), .val (.int x3), .val (.int x4), .val (.int x5), .val (.int x6), s7, .val (.ref b39), .val (.int ((5 : Int32) + x5)), .val (.int y11), .unset, .unset, .unset, .unset, .unset] [])
  refine own_go (fun _ => XS.iload X.here hx rfl (hb hby at_106) rfl) ?_
  show own_WP p e below _ T (mkF m 108 #[.val (.int x0), .val (.int x1), .val (.int x2), .val (.int x3), .val (.int x4), .val (.int x5), .val (.int x6), s7, .val (.ref b39), .val (.int ((5 : Int32) + x5)), .val (.int y11), .unset, .unset, .unset, .unset, .unset] [(.int y11)])
  refine own_go (fun _ => XS.iload X.here hx rfl (hb hby at_108) rfl) ?_
  show own_WP p e below _ T (mkF m 110 #[.val (.int x0), .val (.int x1), .val (.int x2), .val (.int x3), .val (.int x4), .val (.int x5), .val (.int x6), s7, .val (.ref b39), .val (.int ((5 : Int32) + x5)), .val (.int y11), .unset, .unset, .unset, .unset, .unset] [(.int ((5 : Int32) + x5)), (.int y11)])
  refine own_go (fun _ => XS.isub X.here hx rfl (hb hby at_110) rfl) ?_
  show own_WP p e below _ T (mkF m 111 #[.val (.int x0), .val (.int x1), .val (.int x2), .val (.int x3), .val (.int x4), .val (.int x5), .val (.int x6), s7, .val (.ref b39), .val (.int ((5 : Int32) + x5)), .val (.int y11), .unset, .unset, .unset, .unset, .unset] [(.int (y11 - ((5 : Int32) + x5)))])
  refine own_go (fun _ => XS.istore X.here hx rfl (hb hby at_111) rfl (l' := #[.val (.int x0), .val (.int x1), .val (.int x2), .val (.int x3), .val (.int x4), .val (.int x5), .val (.int x6), s7, .val (.ref b39), .val (.int ((5 : Int32) + x5)), .val (.int y11), .val (.int (y11 - ((5 : Int32) + x5))), .unset, .unset, .unset, .unset]) rfl) ?_
  show own_WP p e below _ T (mkF m 113 #[.val (.int x0), .val (.int x1), .val (.int x2), .val (.int x3), .val (.int x4), .val (.int x5), .val (.int x6), s7, .val (.ref b39), .val (.int ((5 : Int32) + x5)), .val (.int y11), .val (.int (y11 - ((5 : Int32) + x5))), .unset, .unset, .unset, .unset] [])
  refine own_go (fun _ => XS.iload X.here hx rfl (hb hby at_113) rfl) ?_
  show own_WP p e below _ T (mkF m 115 #[.val (.int x0), .val (.int x1), .val (.int x2), .val (.int x3), .val (.int x4), .val (.int x5), .val (.int x6), s7, .val (.ref b39), .val (.int ((5 : Int32) + x5)), .val (.int y11), .val (.int (y11 - ((5 : Int32) + x5))), .unset, .unset, .unset, .unset] [(.int y11)])
  refine own_go (fun _ => XS.iconst X.here hx rfl (hb hby at_115)) ?_
  show own_WP p e below _ T (mkF m 116 #[.val (.int x0), .val (.int x1), .val (.int x2), .val (.int x3), .val (.int x4), .val (.int x5), .val (.int x6), s7, .val (.ref b39), .val (.int ((5 : Int32) + x5)), .val (.int y11), .val (.int (y11 - ((5 : Int32) + x5))), .unset, .unset, .unset, .unset] [(.int (2 : Int32)), (.int y11)])
  refine own_go (fun _ => XS.iadd X.here hx rfl (hb hby at_116) rfl) ?_
  show own_WP p e below _ T (mkF m 117 #[.val (.int x0), .val (.int x1), .val (.int x2), .val (.int x3), .val (.int x4), .val (.int x5), .val (.int x6), s7, .val (.ref b39), .val (.int ((5 : Int32) + x5)), .val (.int y11), .val (.int (y11 - ((5 : Int32) + x5))), .unset, .unset, .unset, .unset] [(.int (y11 + (2 : Int32)))])
  refine own_go (fun _ => XS.istore X.here hx rfl (hb hby at_117) rfl (l' := #[.val (.int x0), .val (.int x1), .val (.int x2), .val (.int x3), .val (.int x4), .val (.int x5), .val (.int x6), s7, .val (.ref b39), .val (.int ((5 : Int32) + x5)), .val (.int y11), .val (.int (y11 - ((5 : Int32) + x5))), .val (.int (y11 + (2 : Int32))), .unset, .unset, .unset]) rfl) ?_
  show own_WP p e below _ T (mkF m 119 #[.val (.int x0), .val (.int x1), .val (.int x2), .val (.int x3), .val (.int x4), .val (.int x5), .val (.int x6), s7, .val (.ref b39), .val (.int ((5 : Int32) + x5)), .val (.int y11), .val (.int (y11 - ((5 : Int32) + x5))), .val (.int (y11 + (2 : Int32))), .unset, .unset, .unset] [])
  refine own_go (fun _ => XS.aload X.here hx rfl (hb hby at_119) rfl rfl) ?_
  show own_WP p e below _ T (mkF m 121 #[.val (.int x0), .val (.int x1), .val (.int x2), .val (.int x3), .val (.int x4), .val (.int x5), .val (.int x6), s7, .val (.ref b39), .val (.int ((5 : Int32) + x5)), .val (.int y11), .val (.int (y11 - ((5 : Int32) + x5))), .val (.int (y11 + (2 : Int32))), .unset, .unset, .unset] [(.ref b39)])
  obtain ⟨rr12, hf12, hv⟩ := own_bind hv
  obtain ⟨T12, v12, L12, X12, ⟨N12, K12, Q12⟩, st12⟩ := own_callV X C (a := b39) (argsL := []) (rm9 l Z a0 hw n0 h (by have q := K.1; omega) (by omega) (by omega) E_b39 F_b39_data F_b39_size V_b81 rr12 hf12) (hw _ (List.mem_of_getElem? (i := 47) rfl)) (hw _ (List.mem_of_getElem? (i := 48) rfl)) (hw _ (List.mem_of_getElem? (i := 50) rfl)) (hw _ (List.mem_of_getElem? (i := 49) rfl)) (hw _ (List.mem_of_getElem? (i := 3) rfl)) (hw _ (List.mem_of_getElem? (i := 51) rfl)) (by decide) e0 E_b39 (W := 0) (pc := 121) (Ls := #[.val (.int x0), .val (.int x1), .val (.int x2), .val (.int x3), .val (.int x4), .val (.int x5), .val (.int x6), s7, .val (.ref b39), .val (.int ((5 : Int32) + x5)), .val (.int y11), .val (.int (y11 - ((5 : Int32) + x5))), .val (.int (y11 + (2 : Int32))), .unset, .unset, .unset]) rfl (lenOf pd9 rfl) (rest := []) (stk := [(.ref b39)]) rfl (Nat.le_of_ble_eq_true rfl) (hb hby at_121) (by decide) (by decide) (by decide) (by decide)
  replace N := Fr.app N N12
  have lt12 : b81 < h.size := V_b81.lt
  replace V_b20 := V_b20.keep K12 nin0
  replace E_b39 := E_b39.keep K12
  replace F_b39_data := F_b39_data.keep K12 nin0
  replace F_b39_size := F_b39_size.keep K12 nin0
  replace V_b81 := V_b81.keep K12 nin0
  obtain ⟨b121, zz12, rfl, V_b121⟩ := Q12
  have o_b81_b121 : b81 < b121 := by omega
  replace K := K.trans K12 all0
  refine own_go st12 ?_
  show own_WP p e below _ T12 (mkF m 124 #[.val (.int x0), .val (.int x1), .val (.int x2), .val (.int x3), .val (.int x4), .val (.int x5), .val (.int x6), s7, .val (.ref b39), .val (.int ((5 : Int32) + x5)), .val (.int y11), .val (.int (y11 - ((5 : Int32) + x5))), .val (.int (y11 + (2 : Int32))), .unset, .unset, .unset] [(.ref b121)])
  refine own_go (fun _ => XS.astore X12.here hx rfl (hb hby at_124) rfl rfl (l' := #[.val (.int x0), .val (.int x1), .val (.int x2), .val (.int x3), .val (.int x4), .val (.int x5), .val (.int x6), s7, .val (.ref b39), .val (.int ((5 : Int32) + x5)), .val (.int y11), .val (.int (y11 - ((5 : Int32) + x5))), .val (.int (y11 + (2 : Int32))), .val (.ref b121), .unset, .unset]) rfl) ?_
  show own_WP p e below _ T12 (mkF m 126 #[.val (.int x0), .val (.int x1), .val (.int x2), .val (.int x3), .val (.int x4), .val (.int x5), .val (.int x6), s7, .val (.ref b39), .val (.int ((5 : Int32) + x5)), .val (.int y11), .val (.int (y11 - ((5 : Int32) + x5))), .val (.int (y11 + (2 : Int32))), .val (.ref b121), .unset, .unset] [])
  refine own_go (fun _ => XS.aload X12.here hx rfl (hb hby at_126) rfl rfl) ?_
  show own_WP p e below _ T12 (mkF m 128 #[.val (.int x0), .val (.int x1), .val (.int x2), .val (.int x3), .val (.int x4), .val (.int x5), .val (.int x6), s7, .val (.ref b39), .val (.int ((5 : Int32) + x5)), .val (.int y11), .val (.int (y11 - ((5 : Int32) + x5))), .val (.int (y11 + (2 : Int32))), .val (.ref b121), .unset, .unset] [(.ref b121)])
  refine own_go (own_lenI X12 C (rfl : T12.heap = T12.heap) V_b121 (hb hby at_128)) ?_
  show own_WP p e below _ T12 (mkF m 129 #[.val (.int x0), .val (.int x1), .val (.int x2), .val (.int x3), .val (.int x4), .val (.int x5), .val (.int x6), s7, .val (.ref b39), .val (.int ((5 : Int32) + x5)), .val (.int y11), .val (.int (y11 - ((5 : Int32) + x5))), .val (.int (y11 + (2 : Int32))), .val (.ref b121), .unset, .unset] [(.int (Int32.ofNat rr12.length))])
  refine own_go (fun _ => XS.iload X12.here hx rfl (hb hby at_129) rfl) ?_
  show own_WP p e below _ T12 (mkF m 131 #[.val (.int x0), .val (.int x1), .val (.int x2), .val (.int x3), .val (.int x4), .val (.int x5), .val (.int x6), s7, .val (.ref b39), .val (.int ((5 : Int32) + x5)), .val (.int y11), .val (.int (y11 - ((5 : Int32) + x5))), .val (.int (y11 + (2 : Int32))), .val (.ref b121), .unset, .unset] [(.int (y11 + (2 : Int32))), (.int (Int32.ofNat rr12.length))])
  by_cases h131 : (Int32.ofNat rr12.length) = (y11 + (2 : Int32))
  · replace hv := (if_pos h131).symm.trans hv
    refine own_go (fun _ => XS.icmpNo X12.here hx rfl (hb hby at_131) rfl (XT.ii_ne_f h131)) ?_
    show own_WP p e below _ T12 (mkF m 134 #[.val (.int x0), .val (.int x1), .val (.int x2), .val (.int x3), .val (.int x4), .val (.int x5), .val (.int x6), s7, .val (.ref b39), .val (.int ((5 : Int32) + x5)), .val (.int y11), .val (.int (y11 - ((5 : Int32) + x5))), .val (.int (y11 + (2 : Int32))), .val (.ref b121), .unset, .unset] [])
    refine own_go (fun _ => XS.aload X12.here hx rfl (hb hby at_134) rfl rfl) ?_
    show own_WP p e below _ T12 (mkF m 136 #[.val (.int x0), .val (.int x1), .val (.int x2), .val (.int x3), .val (.int x4), .val (.int x5), .val (.int x6), s7, .val (.ref b39), .val (.int ((5 : Int32) + x5)), .val (.int y11), .val (.int (y11 - ((5 : Int32) + x5))), .val (.int (y11 + (2 : Int32))), .val (.ref b121), .unset, .unset] [(.ref b39)])
    obtain ⟨rr13, hf13, hv⟩ := own_bind hv
    obtain ⟨T13, v13, L13, X13, ⟨N13, K13, Q13⟩, st13⟩ := own_callV X12 C (a := b39) (argsL := []) (rm12 l Z a0 hw n0 T12.heap (by have q := K.1; omega) (by omega) (by omega) E_b39 F_b39_data F_b39_size V_b81 rr13 hf13) (hw _ (List.mem_of_getElem? (i := 61) rfl)) (hw _ (List.mem_of_getElem? (i := 62) rfl)) (hw _ (List.mem_of_getElem? (i := 64) rfl)) (hw _ (List.mem_of_getElem? (i := 63) rfl)) (hw _ (List.mem_of_getElem? (i := 3) rfl)) (hw _ (List.mem_of_getElem? (i := 65) rfl)) (by decide) (rfl : T12.heap = T12.heap) E_b39 (W := 0) (pc := 136) (Ls := #[.val (.int x0), .val (.int x1), .val (.int x2), .val (.int x3), .val (.int x4), .val (.int x5), .val (.int x6), s7, .val (.ref b39), .val (.int ((5 : Int32) + x5)), .val (.int y11), .val (.int (y11 - ((5 : Int32) + x5))), .val (.int (y11 + (2 : Int32))), .val (.ref b121), .unset, .unset]) rfl (lenOf pd12 rfl) (rest := []) (stk := [(.ref b39)]) rfl (Nat.le_of_ble_eq_true rfl) (hb hby at_136) (by decide) (by decide) (by decide) (by decide)
    replace N := Fr.app N N13
    replace V_b20 := V_b20.keep K13 nin0
    replace E_b39 := E_b39.keep K13
    replace F_b39_data := F_b39_data.keep K13 nin0
    replace F_b39_size := F_b39_size.keep K13 nin0
    replace V_b81 := V_b81.keep K13 nin0
    replace V_b121 := V_b121.keep K13 nin0
    obtain ⟨rfl⟩ := Q13
    replace K := K.trans K13 all0
    refine own_go st13 ?_
    show own_WP p e below _ T13 (mkF m 139 #[.val (.int x0), .val (.int x1), .val (.int x2), .val (.int x3), .val (.int x4), .val (.int x5), .val (.int x6), s7, .val (.ref b39), .val (.int ((5 : Int32) + x5)), .val (.int y11), .val (.int (y11 - ((5 : Int32) + x5))), .val (.int (y11 + (2 : Int32))), .val (.ref b121), .unset, .unset] [(.int rr13)])
    refine own_go (fun _ => XS.iload X13.here hx rfl (hb hby at_139) rfl) ?_
    show own_WP p e below _ T13 (mkF m 141 #[.val (.int x0), .val (.int x1), .val (.int x2), .val (.int x3), .val (.int x4), .val (.int x5), .val (.int x6), s7, .val (.ref b39), .val (.int ((5 : Int32) + x5)), .val (.int y11), .val (.int (y11 - ((5 : Int32) + x5))), .val (.int (y11 + (2 : Int32))), .val (.ref b121), .unset, .unset] [(.int (y11 + (2 : Int32))), (.int rr13)])
    by_cases h141 : rr13 = (y11 + (2 : Int32))
    · replace hv := (if_pos h141).symm.trans hv
      refine own_go (fun _ => XS.icmpYes X13.here hx rfl (pc0 := 141) (pc' := 146) rfl (hb hby at_141) rfl (XT.ii_eq_t h141) (by decide) (by decide)) ?_
      exact b0_146 hw C Z0 rr hP X13 (rfl : T13.heap = T13.heap) N K o_b20_b39 o_b39_b81 o_b81_b121 g_b20 z_b20 V_b20 E_b39 F_b39_data F_b39_size V_b81 V_b121 x0 x1 x2 x3 x4 x5 x6 s7 hs7 ((5 : Int32) + x5) y11 (y11 - ((5 : Int32) + x5)) (y11 + (2 : Int32)) hv
    · replace hv := (if_neg h141).symm.trans hv
      refine own_go (fun _ => XS.icmpNo X13.here hx rfl (hb hby at_141) rfl (XT.ii_eq_f h141)) ?_
      show own_WP p e below _ T13 (mkF m 144 #[.val (.int x0), .val (.int x1), .val (.int x2), .val (.int x3), .val (.int x4), .val (.int x5), .val (.int x6), s7, .val (.ref b39), .val (.int ((5 : Int32) + x5)), .val (.int y11), .val (.int (y11 - ((5 : Int32) + x5))), .val (.int (y11 + (2 : Int32))), .val (.ref b121), .unset, .unset] [])
      refine own_go (fun _ => XS.iconst X13.here hx rfl (hb hby at_144)) ?_
      show own_WP p e below _ T13 (mkF m 145 #[.val (.int x0), .val (.int x1), .val (.int x2), .val (.int x3), .val (.int x4), .val (.int x5), .val (.int x6), s7, .val (.ref b39), .val (.int ((5 : Int32) + x5)), .val (.int y11), .val (.int (y11 - ((5 : Int32) + x5))), .val (.int (y11 + (2 : Int32))), .val (.ref b121), .unset, .unset] [(.int (0 : Int32))])
      obtain rfl := Option.some.inj hv
      exact own_retN X13 C (by simp) (hb hby at_145) (hP _ _ _ N K rfl) (by decide) (by decide)
  · replace hv := (if_neg h131).symm.trans hv
    refine own_go (fun _ => XS.icmpYes X12.here hx rfl (pc0 := 131) (pc' := 144) rfl (hb hby at_131) rfl (XT.ii_ne_t h131) (by decide) (by decide)) ?_
    show own_WP p e below _ T12 (mkF m 144 #[.val (.int x0), .val (.int x1), .val (.int x2), .val (.int x3), .val (.int x4), .val (.int x5), .val (.int x6), s7, .val (.ref b39), .val (.int ((5 : Int32) + x5)), .val (.int y11), .val (.int (y11 - ((5 : Int32) + x5))), .val (.int (y11 + (2 : Int32))), .val (.ref b121), .unset, .unset] [])
    refine own_go (fun _ => XS.iconst X12.here hx rfl (hb hby at_144)) ?_
    show own_WP p e below _ T12 (mkF m 145 #[.val (.int x0), .val (.int x1), .val (.int x2), .val (.int x3), .val (.int x4), .val (.int x5), .val (.int x6), s7, .val (.ref b39), .val (.int ((5 : Int32) + x5)), .val (.int y11), .val (.int (y11 - ((5 : Int32) + x5))), .val (.int (y11 + (2 : Int32))), .val (.ref b121), .unset, .unset] [(.int (0 : Int32))])
    obtain rfl := Option.some.inj hv
    exact own_retN X12 C (by simp) (hb hby at_145) (hP _ _ _ N K rfl) (by decide) (by decide)
def f0_39 (v_b20 : List Int32) (x0 : Int32) (x1 : Int32) (x2 : Int32) (x4 : Int32) (x5 : Int32) (x6 : Int32) : Option (Int32) := ((f1_0 (0 : Int32)).bind fun rr5 => ((f3_0 (rr5.2) (rr5.1) x0).bind fun rr6 => ((f5_0 v_b20 (rr6.2) (rr6.1)).bind fun rr7 => ((f6_0 (rr7.2) (rr7.1) x1).bind fun rr8 => ((f7_0 (rr8.2) (rr8.1) x6).bind fun rr9 => ((f8_0 (rr9.2) (rr9.1) x2).bind fun rr10 => (f0_85 (rr10.1) (rr10.2) x0 x1 x2 x4 x5 x6)))))))
set_option maxRecDepth 65536 in
set_option maxHeartbeats 40000000 in
theorem b0_39 {p : Program} {l : Launch} {e : Env} {s : State} {m : MethodId} {args : Array Value} {below : List Frame} {meth : Method} {c : Code} {Z : State} {a0 : Array Value} {h0 : Heap} {n0 : Nat} {P : Option Value → Heap → List Loc → Prop} (hw : ∀ d ∈ tables_1, d.before a0 Z = true) (C : own_Ctx p s m meth c Z x code maxLocals ret) (Z0 : n0 ≤ h0.size)   (rr : Int32) (hP : ∀ v h L, Fr n0 L → Keep h0 h [] → E0 Z h0  rr v h → P v h L)
    {T : State} {locs : List Loc} {h : Heap} {b20 : Nat} {v_b20 : List Int32} (X : Stand p l e room_1 s m args below meth c T locs 1 127) (e0 : T.heap = h) (N : Fr n0 locs) (K : Keep h0 h []) (g_b20 : n0 ≤ b20) (z_b20 : h0.size ≤ b20) (V_b20 : own_AI Z h b20 .byte v_b20) (x0 : Int32) (x1 : Int32) (x2 : Int32) (x3 : Int32) (x4 : Int32) (x5 : Int32) (x6 : Int32) (hv : f0_39 v_b20 x0 x1 x2 x4 x5 x6 = some rr) :
    own_WP p e below (own_Q s P room_1.cells room_1.slots) T (mkF m 39 #[.val (.int x0), .val (.int x1), .val (.int x2), .val (.int x3), .val (.int x4), .val (.int x5), .val (.int x6), .val (.ref b20), .unset, .unset, .unset, .unset, .unset, .unset, .unset, .unset] []) := by
  obtain ⟨hx, hZ, hby, hml, hown, hnm, hret, hlk⟩ := id C
  replace hown : s.vm.findClass "com/example/objwire/objwire/ndr/NdrWriterToByteArrayPinLaw" = some m.cls := hown
  unfold f0_39 at hv
  show own_WP p e below _ T (mkF m 39 #[.val (.int x0), .val (.int x1), .val (.int x2), .val (.int x3), .val (.int x4), .val (.int x5), .val (.int x6), .val (.ref b20), .unset, .unset, .unset, .unset, .unset, .unset, .unset, .unset] [])
  obtain ⟨T4, h4, X4, e4, E4, A4, D4, -, st4⟩ := newO X hx hZ hown (hw _ (List.mem_of_getElem? (i := 1) rfl)) (hw _ (List.mem_of_getElem? (i := 2) rfl)) (hw _ (List.mem_of_getElem? (i := 3) rfl)) e0 (g := (mkF m 39 #[.val (.int x0), .val (.int x1), .val (.int x2), .val (.int x3), .val (.int x4), .val (.int x5), .val (.int x6), .val (.ref b20), .unset, .unset, .unset, .unset, .unset, .unset, .unset, .unset] [])) rfl (hb hby at_39) (by decide) (by decide)
  obtain ⟨b39, hb_b39⟩ : ∃ z, z = h.size := ⟨_, rfl⟩
  rw [← hb_b39] at A4 D4 st4
  refine own_go st4 ?_
  have o_b20_b39 : b20 < b39 := by have q : b20 < h.size := V_b20.lt; omega
  replace V_b20 := V_b20.ext E4
  replace K := K.ext E4
  have E_b39 := A4
  have F_b39_data : Fld Z h4 b39 "com/example/objwire/objwire/ndr/NdrWriter" "data" "[B" .null := D4 (Or.inl (hw _ (List.mem_of_getElem? (i := 11) rfl))) (ty := (.array .byte)) (by decide)
  have F_b39_size : Fld Z h4 b39 "com/example/objwire/objwire/ndr/NdrWriter" "size" "I" (.int (0 : Int32)) := D4 (Or.inl (hw _ (List.mem_of_getElem? (i := 22) rfl))) (ty := .int) (by decide)
  show own_WP p e below _ T4 (mkF m 42 #[.val (.int x0), .val (.int x1), .val (.int x2), .val (.int x3), .val (.int x4), .val (.int x5), .val (.int x6), .val (.ref b20), .unset, .unset, .unset, .unset, .unset, .unset, .unset, .unset] [(.ref b39)])
  refine own_go (fun _ => XS.dup X4.here hx rfl (hb hby at_42) rfl rfl) ?_
  show own_WP p e below _ T4 (mkF m 43 #[.val (.int x0), .val (.int x1), .val (.int x2), .val (.int x3), .val (.int x4), .val (.int x5), .val (.int x6), .val (.ref b20), .unset, .unset, .unset, .unset, .unset, .unset, .unset, .unset] [(.ref b39), (.ref b39)])
  obtain ⟨rr5, hf5, hv⟩ := own_bind hv
  obtain ⟨T5, v5, L5, X5, ⟨N5, K5, Q5⟩, st5⟩ := own_callN X4 C (a := b39) (argsL := []) (rm1 l Z a0 hw n0 h4 (by have q := K.1; omega) (by omega) E_b39 F_b39_data F_b39_size rr5 hf5) rfl (hw _ (List.mem_of_getElem? (i := 4) rfl)) (hw _ (List.mem_of_getElem? (i := 5) rfl)) (hw _ (List.mem_of_getElem? (i := 3) rfl)) (hw _ (List.mem_of_getElem? (i := 6) rfl)) (by decide) e4 (W := 1) (pc := 43) (Ls := #[.val (.int x0), .val (.int x1), .val (.int x2), .val (.int x3), .val (.int x4), .val (.int x5), .val (.int x6), .val (.ref b20), .unset, .unset, .unset, .unset, .unset, .unset, .unset, .unset]) rfl (lenOf pd1 rfl) (rest := [(.ref b39)]) (stk := [(.ref b39), (.ref b39)]) rfl (Nat.le_of_ble_eq_true rfl) (hb hby at_43) (by decide) (by decide) (by decide) (by decide)
  replace N := Fr.app N N5
  have lt5 : b39 < h4.size := E_b39.lt
  replace V_b20 := V_b20.keep K5 (ninS (own_ne (by omega)) nin0)
  clear E_b39
  clear F_b39_data
  clear F_b39_size
  obtain ⟨b43, zz5, rfl, E_b39, F_b39_data, F_b39_size, V_b43⟩ := Q5
  have o_b39_b43 : b39 < b43 := by omega
  replace K := K.trans K5 (allS (Or.inr (by omega)) all0)
  refine own_go st5 ?_
  show own_WP p e below _ T5 (mkF m 46 #[.val (.int x0), .val (.int x1), .val (.int x2), .val (.int x3), .val (.int x4), .val (.int x5), .val (.int x6), .val (.ref b20), .unset, .unset, .unset, .unset, .unset, .unset, .unset, .unset] [(.ref b39)])
  refine own_go (fun _ => XS.astore X5.here hx rfl (hb hby at_46) rfl rfl (l' := #[.val (.int x0), .val (.int x1), .val (.int x2), .val (.int x3), .val (.int x4), .val (.int x5), .val (.int x6), .val (.ref b20), .val (.ref b39), .unset, .unset, .unset, .unset, .unset, .unset, .unset]) rfl) ?_
  show own_WP p e below _ T5 (mkF m 48 #[.val (.int x0), .val (.int x1), .val (.int x2), .val (.int x3), .val (.int x4), .val (.int x5), .val (.int x6), .val (.ref b20), .val (.ref b39), .unset, .unset, .unset, .unset, .unset, .unset, .unset] [])
  refine own_go (fun _ => XS.aload X5.here hx rfl (hb hby at_48) rfl rfl) ?_
  show own_WP p e below _ T5 (mkF m 50 #[.val (.int x0), .val (.int x1), .val (.int x2), .val (.int x3), .val (.int x4), .val (.int x5), .val (.int x6), .val (.ref b20), .val (.ref b39), .unset, .unset, .unset, .unset, .unset, .unset, .unset] [(.ref b39)])
  refine own_go (fun _ => XS.iloadN X5.here hx rfl (hb hby at_50) rfl) ?_
  show own_WP p e below _ T5 (mkF m 51 #[.val (.int x0), .val (.int x1), .val (.int x2), .val (.int x3), .val (.int x4), .val (.int x5), .val (.int x6), .val (.ref b20), .val (.ref b39), .unset, .unset, .unset, .unset, .unset, .unset, .unset] [(.int x0), (.ref b39)])
  obtain ⟨rr6, hf6, hv⟩ := own_bind hv
  obtain ⟨T6, v6, L6, X6, ⟨N6, K6, Q6⟩, st6⟩ := own_callV X5 C (a := b39) (argsL := [(.int x0)]) (rm3 l Z a0 hw n0 T5.heap (by have q := K.1; omega) (by omega) (by omega) E_b39 F_b39_data F_b39_size V_b43 x0 rr6 hf6) (hw _ (List.mem_of_getElem? (i := 12) rfl)) (hw _ (List.mem_of_getElem? (i := 13) rfl)) (hw _ (List.mem_of_getElem? (i := 15) rfl)) (hw _ (List.mem_of_getElem? (i := 14) rfl)) (hw _ (List.mem_of_getElem? (i := 3) rfl)) (hw _ (List.mem_of_getElem? (i := 16) rfl)) (by decide) (rfl : T5.heap = T5.heap) E_b39 (W := 0) (pc := 51) (Ls := #[.val (.int x0), .val (.int x1), .val (.int x2), .val (.int x3), .val (.int x4), .val (.int x5), .val (.int x6), .val (.ref b20), .val (.ref b39), .unset, .unset, .unset, .unset, .unset, .unset, .unset]) rfl (lenOf pd3 rfl) (rest := []) (stk := [(.int x0), (.ref b39)]) rfl (Nat.le_of_ble_eq_true rfl) (hb hby at_51) (by decide) (by decide) (by decide) (by decide)
  replace N := Fr.app N N6
  have lt6 : b43 < T5.heap.size := V_b43.lt
  have kz6 := K.1
  replace V_b20 := V_b20.keep K6 (ninS (own_ne (by omega)) (ninS (own_ne (by omega)) nin0))
  clear E_b39
  clear F_b39_data
  clear F_b39_size
  clear V_b43
  obtain ⟨b51, zz6, rfl, E_b39, F_b39_data, F_b39_size, V_b51⟩ := Q6
  have o_b39_b51 : b39 < b51 := by omega
  replace K := K.trans K6 (allS (Or.inr (by omega)) (allS (Or.inr (by omega)) all0))
  refine own_go st6 ?_
  show own_WP p e below _ T6 (mkF m 54 #[.val (.int x0), .val (.int x1), .val (.int x2), .val (.int x3), .val (.int x4), .val (.int x5), .val (.int x6), .val (.ref b20), .val (.ref b39), .unset, .unset, .unset, .unset, .unset, .unset, .unset] [(.ref b39)])
  refine own_go (fun _ => XS.pop X6.here hx rfl (hb hby at_54) rfl rfl) ?_
  show own_WP p e below _ T6 (mkF m 55 #[.val (.int x0), .val (.int x1), .val (.int x2), .val (.int x3), .val (.int x4), .val (.int x5), .val (.int x6), .val (.ref b20), .val (.ref b39), .unset, .unset, .unset, .unset, .unset, .unset, .unset] [])
  refine own_go (fun _ => XS.aload X6.here hx rfl (hb hby at_55) rfl rfl) ?_
  show own_WP p e below _ T6 (mkF m 57 #[.val (.int x0), .val (.int x1), .val (.int x2), .val (.int x3), .val (.int x4), .val (.int x5), .val (.int x6), .val (.ref b20), .val (.ref b39), .unset, .unset, .unset, .unset, .unset, .unset, .unset] [(.ref b39)])
  refine own_go (fun _ => XS.aload X6.here hx rfl (hb hby at_57) rfl rfl) ?_
  show own_WP p e below _ T6 (mkF m 59 #[.val (.int x0), .val (.int x1), .val (.int x2), .val (.int x3), .val (.int x4), .val (.int x5), .val (.int x6), .val (.ref b20), .val (.ref b39), .unset, .unset, .unset, .unset, .unset, .unset, .unset] [(.ref b20), (.ref b39)])
  obtain ⟨rr7, hf7, hv⟩ := own_bind hv
  obtain ⟨T7, v7, L7, X7, ⟨N7, K7, Q7⟩, st7⟩ := own_callV X6 C (a := b39) (argsL := [(.ref b20)]) (rm5 l Z a0 hw n0 T6.heap (by have q := K.1; omega) (by omega) (by omega) (by omega) V_b20 E_b39 F_b39_data F_b39_size V_b51 rr7 hf7) (hw _ (List.mem_of_getElem? (i := 23) rfl)) (hw _ (List.mem_of_getElem? (i := 24) rfl)) (hw _ (List.mem_of_getElem? (i := 26) rfl)) (hw _ (List.mem_of_getElem? (i := 25) rfl)) (hw _ (List.mem_of_getElem? (i := 3) rfl)) (hw _ (List.mem_of_getElem? (i := 27) rfl)) (by decide) (rfl : T6.heap = T6.heap) E_b39 (W := 0) (pc := 59) (Ls := #[.val (.int x0), .val (.int x1), .val (.int x2), .val (.int x3), .val (.int x4), .val (.int x5), .val (.int x6), .val (.ref b20), .val (.ref b39), .unset, .unset, .unset, .unset, .unset, .unset, .unset]) rfl (lenOf pd5 rfl) (rest := []) (stk := [(.ref b20), (.ref b39)]) rfl (Nat.le_of_ble_eq_true rfl) (hb hby at_59) (by decide) (by decide) (by decide) (by decide)
  replace N := Fr.app N N7
  have lt7 : b51 < T6.heap.size := V_b51.lt
  have kz7 := K.1
  replace V_b20 := V_b20.keep K7 (ninS (own_ne (by omega)) (ninS (own_ne (by omega)) nin0))
  clear E_b39
  clear F_b39_data
  clear F_b39_size
  clear V_b51
  obtain ⟨b59, zz7, rfl, E_b39, F_b39_data, F_b39_size, V_b59⟩ := Q7
  have o_b39_b59 : b39 < b59 := by omega
  replace K := K.trans K7 (allS (Or.inr (by omega)) (allS (Or.inr (by omega)) all0))
  refine own_go st7 ?_
  show own_WP p e below _ T7 (mkF m 62 #[.val (.int x0), .val (.int x1), .val (.int x2), .val (.int x3), .val (.int x4), .val (.int x5), .val (.int x6), .val (.ref b20), .val (.ref b39), .unset, .unset, .unset, .unset, .unset, .unset, .unset] [(.ref b39)])
  refine own_go (fun _ => XS.pop X7.here hx rfl (hb hby at_62) rfl rfl) ?_
  show own_WP p e below _ T7 (mkF m 63 #[.val (.int x0), .val (.int x1), .val (.int x2), .val (.int x3), .val (.int x4), .val (.int x5), .val (.int x6), .val (.ref b20), .val (.ref b39), .unset, .unset, .unset, .unset, .unset, .unset, .unset] [])
  refine own_go (fun _ => XS.aload X7.here hx rfl (hb hby at_63) rfl rfl) ?_
  show own_WP p e below _ T7 (mkF m 65 #[.val (.int x0), .val (.int x1), .val (.int x2), .val (.int x3), .val (.int x4), .val (.int x5), .val (.int x6), .val (.ref b20), .val (.ref b39), .unset, .unset, .unset, .unset, .unset, .unset, .unset] [(.ref b39)])
  refine own_go (fun _ => XS.iloadN X7.here hx rfl (hb hby at_65) rfl) ?_
  show own_WP p e below _ T7 (mkF m 66 #[.val (.int x0), .val (.int x1), .val (.int x2), .val (.int x3), .val (.int x4), .val (.int x5), .val (.int x6), .val (.ref b20), .val (.ref b39), .unset, .unset, .unset, .unset, .unset, .unset, .unset] [(.int x1), (.ref b39)])
  obtain ⟨rr8, hf8, hv⟩ := own_bind hv
  obtain ⟨T8, v8, L8, X8, ⟨N8, K8, Q8⟩, st8⟩ := own_callV X7 C (a := b39) (argsL := [(.int x1)]) (rm6 l Z a0 hw n0 T7.heap (by have q := K.1; omega) (by omega) (by omega) E_b39 F_b39_data F_b39_size V_b59 x1 rr8 hf8) (hw _ (List.mem_of_getElem? (i := 32) rfl)) (hw _ (List.mem_of_getElem? (i := 33) rfl)) (hw _ (List.mem_of_getElem? (i := 35) rfl)) (hw _ (List.mem_of_getElem? (i := 34) rfl)) (hw _ (List.mem_of_getElem? (i := 3) rfl)) (hw _ (List.mem_of_getElem? (i := 36) rfl)) (by decide) (rfl : T7.heap = T7.heap) E_b39 (W := 0) (pc := 66) (Ls := #[.val (.int x0), .val (.int x1), .val (.int x2), .val (.int x3), .val (.int x4), .val (.int x5), .val (.int x6), .val (.ref b20), .val (.ref b39), .unset, .unset, .unset, .unset, .unset, .unset, .unset]) rfl (lenOf pd6 rfl) (rest := []) (stk := [(.int x1), (.ref b39)]) rfl (Nat.le_of_ble_eq_true rfl) (hb hby at_66) (by decide) (by decide) (by decide) (by decide)
  replace N := Fr.app N N8
  have lt8 : b59 < T7.heap.size := V_b59.lt
  have kz8 := K.1
  replace V_b20 := V_b20.keep K8 (ninS (own_ne (by omega)) (ninS (own_ne (by omega)) nin0))
  clear E_b39
  clear F_b39_data
  clear F_b39_size
  clear V_b59
  obtain ⟨b66, zz8, rfl, E_b39, F_b39_data, F_b39_size, V_b66⟩ := Q8
  have o_b39_b66 : b39 < b66 := by omega
  replace K := K.trans K8 (allS (Or.inr (by omega)) (allS (Or.inr (by omega)) all0))
  refine own_go st8 ?_
  show own_WP p e below _ T8 (mkF m 69 #[.val (.int x0), .val (.int x1), .val (.int x2), .val (.int x3), .val (.int x4), .val (.int x5), .val (.int x6), .val (.ref b20), .val (.ref b39), .unset, .unset, .unset, .unset, .unset, .unset, .unset] [(.ref b39)])
  refine own_go (fun _ => XS.pop X8.here hx rfl (hb hby at_69) rfl rfl) ?_
  show own_WP p e below _ T8 (mkF m 70 #[.val (.int x0), .val (.int x1), .val (.int x2), .val (.int x3), .val (.int x4), .val (.int x5), .val (.int x6), .val (.ref b20), .val (.ref b39), .unset, .unset, .unset, .unset, .unset, .unset, .unset] [])
  refine own_go (fun _ => XS.aload X8.here hx rfl (hb hby at_70) rfl rfl) ?_
  show own_WP p e below _ T8 (mkF m 72 #[.val (.int x0), .val (.int x1), .val (.int x2), .val (.int x3), .val (.int x4), .val (.int x5), .val (.int x6), .val (.ref b20), .val (.ref b39), .unset, .unset, .unset, .unset, .unset, .unset, .unset] [(.ref b39)])
  refine own_go (fun _ => XS.iload X8.here hx rfl (hb hby at_72) rfl) ?_
  show own_WP p e below _ T8 (mkF m 74 #[.val (.int x0), .val (.int x1), .val (.int x2), .val (.int x3), .val (.int x4), .val (.int x5), .val (.int x6), .val (.ref b20), .val (.ref b39), .unset, .unset, .unset, .unset, .unset, .unset, .unset] [(.int x6), (.ref b39)])
  obtain ⟨rr9, hf9, hv⟩ := own_bind hv
  obtain ⟨T9, v9, L9, X9, ⟨N9, K9, Q9⟩, st9⟩ := own_callV X8 C (a := b39) (argsL := [(.int x6)]) (rm7 l Z a0 hw n0 T8.heap (by have q := K.1; omega) (by omega) (by omega) E_b39 F_b39_data F_b39_size V_b66 x6 rr9 hf9) (hw _ (List.mem_of_getElem? (i := 37) rfl)) (hw _ (List.mem_of_getElem? (i := 38) rfl)) (hw _ (List.mem_of_getElem? (i := 40) rfl)) (hw _ (List.mem_of_getElem? (i := 39) rfl)) (hw _ (List.mem_of_getElem? (i := 3) rfl)) (hw _ (List.mem_of_getElem? (i := 41) rfl)) (by decide) (rfl : T8.heap = T8.heap) E_b39 (W := 0) (pc := 74) (Ls := #[.val (.int x0), .val (.int x1), .val (.int x2), .val (.int x3), .val (.int x4), .val (.int x5), .val (.int x6), .val (.ref b20), .val (.ref b39), .unset, .unset, .unset, .unset, .unset, .unset, .unset]) rfl (lenOf pd7 rfl) (rest := []) (stk := [(.int x6), (.ref b39)]) rfl (Nat.le_of_ble_eq_true rfl) (hb hby at_74) (by decide) (by decide) (by decide) (by decide)
  replace N := Fr.app N N9
  have lt9 : b66 < T8.heap.size := V_b66.lt
  have kz9 := K.1
  replace V_b20 := V_b20.keep K9 (ninS (own_ne (by omega)) (ninS (own_ne (by omega)) nin0))
  clear E_b39
  clear F_b39_data
  clear F_b39_size
  clear V_b66
  obtain ⟨b74, zz9, rfl, E_b39, F_b39_data, F_b39_size, V_b74⟩ := Q9
  have o_b39_b74 : b39 < b74 := by omega
  replace K := K.trans K9 (allS (Or.inr (by omega)) (allS (Or.inr (by omega)) all0))
  refine own_go st9 ?_
  show own_WP p e below _ T9 (mkF m 77 #[.val (.int x0), .val (.int x1), .val (.int x2), .val (.int x3), .val (.int x4), .val (.int x5), .val (.int x6), .val (.ref b20), .val (.ref b39), .unset, .unset, .unset, .unset, .unset, .unset, .unset] [(.ref b39)])
  refine own_go (fun _ => XS.pop X9.here hx rfl (hb hby at_77) rfl rfl) ?_
  show own_WP p e below _ T9 (mkF m 78 #[.val (.int x0), .val (.int x1), .val (.int x2), .val (.int x3), .val (.int x4), .val (.int x5), .val (.int x6), .val (.ref b20), .val (.ref b39), .unset, .unset, .unset, .unset, .unset, .unset, .unset] [])
  refine own_go (fun _ => XS.aload X9.here hx rfl (hb hby at_78) rfl rfl) ?_
  show own_WP p e below _ T9 (mkF m 80 #[.val (.int x0), .val (.int x1), .val (.int x2), .val (.int x3), .val (.int x4), .val (.int x5), .val (.int x6), .val (.ref b20), .val (.ref b39), .unset, .unset, .unset, .unset, .unset, .unset, .unset] [(.ref b39)])
  refine own_go (fun _ => XS.iloadN X9.here hx rfl (hb hby at_80) rfl) ?_
  show own_WP p e below _ T9 (mkF m 81 #[.val (.int x0), .val (.int x1), .val (.int x2), .val (.int x3), .val (.int x4), .val (.int x5), .val (.int x6), .val (.ref b20), .val (.ref b39), .unset, .unset, .unset, .unset, .unset, .unset, .unset] [(.int x2), (.ref b39)])
  obtain ⟨rr10, hf10, hv⟩ := own_bind hv
  obtain ⟨T10, v10, L10, X10, ⟨N10, K10, Q10⟩, st10⟩ := own_callV X9 C (a := b39) (argsL := [(.int x2)]) (rm8 l Z a0 hw n0 T9.heap (by have q := K.1; omega) (by omega) (by omega) E_b39 F_b39_data F_b39_size V_b74 x2 rr10 hf10) (hw _ (List.mem_of_getElem? (i := 42) rfl)) (hw _ (List.mem_of_getElem? (i := 43) rfl)) (hw _ (List.mem_of_getElem? (i := 45) rfl)) (hw _ (List.mem_of_getElem? (i := 44) rfl)) (hw _ (List.mem_of_getElem? (i := 3) rfl)) (hw _ (List.mem_of_getElem? (i := 46) rfl)) (by decide) (rfl : T9.heap = T9.heap) E_b39 (W := 0) (pc := 81) (Ls := #[.val (.int x0), .val (.int x1), .val (.int x2), .val (.int x3), .val (.int x4), .val (.int x5), .val (.int x6), .val (.ref b20), .val (.ref b39), .unset, .unset, .unset, .unset, .unset, .unset, .unset]) rfl (lenOf pd8 rfl) (rest := []) (stk := [(.int x2), (.ref b39)]) rfl (Nat.le_of_ble_eq_true rfl) (hb hby at_81) (by decide) (by decide) (by decide) (by decide)
  replace N := Fr.app N N10
  have lt10 : b74 < T9.heap.size := V_b74.lt
  have kz10 := K.1
  replace V_b20 := V_b20.keep K10 (ninS (own_ne (by omega)) (ninS (own_ne (by omega)) nin0))
  clear E_b39
  clear F_b39_data
  clear F_b39_size
  clear V_b74
  obtain ⟨b81, zz10, rfl, E_b39, F_b39_data, F_b39_size, V_b81⟩ := Q10
  have o_b39_b81 : b39 < b81 := by omega
  replace K := K.trans K10 (allS (Or.inr (by omega)) (allS (Or.inr (by omega)) all0))
  refine own_go st10 ?_
  show own_WP p e below _ T10 (mkF m 84 #[.val (.int x0), .val (.int x1), .val (.int x2), .val (.int x3), .val (.int x4), .val (.int x5), .val (.int x6), .val (.ref b20), .val (.ref b39), .unset, .unset, .unset, .unset, .unset, .unset, .unset] [(.ref b39)])
  refine own_go (fun _ => XS.pop X10.here hx rfl (hb hby at_84) rfl rfl) ?_
  exact b0_85 hw C Z0 rr hP X10 (rfl : T10.heap = T10.heap) N K o_b20_b39 o_b39_b81 g_b20 z_b20 V_b20 E_b39 F_b39_data F_b39_size V_b81 x0 x1 x2 x3 x4 x5 x6 (.val (.ref b20)) (One.val rfl) hv
def f0_0 (x0 : Int32) (x1 : Int32) (x2 : Int32) (x3 : Int32) (x4 : Int32) : Option (Int32) := (own_let ((1 : Int32) + ((XT.ushr x4 (8 : Int32)) &&& (7 : Int32))) fun y1 => (if (x3 &&& (127 : Int32)) < 0 ∨ 127 < (x3 &&& (127 : Int32)).toInt then none else (if (0 : Int32) < (x3 &&& (127 : Int32)) then ((own_set (List.replicate ((x3 &&& (127 : Int32))).toNatClampNeg 0) ((x3 &&& (127 : Int32)) - (1 : Int32)) ((x4.toInt8.toInt32).toInt8.toInt32)).bind fun u3 => (f0_39 u3 x0 x1 x2 x4 (x3 &&& (127 : Int32)) y1)) else (f0_39 (List.replicate ((x3 &&& (127 : Int32))).toNatClampNeg 0) x0 x1 x2 x4 (x3 &&& (127 : Int32)) y1))))
set_option maxRecDepth 65536 in
set_option maxHeartbeats 40000000 in
theorem b0_0 {p : Program} {l : Launch} {e : Env} {s : State} {m : MethodId} {args : Array Value} {below : List Frame} {meth : Method} {c : Code} {Z : State} {a0 : Array Value} {h0 : Heap} {n0 : Nat} {P : Option Value → Heap → List Loc → Prop} (hw : ∀ d ∈ tables_1, d.before a0 Z = true) (C : own_Ctx p s m meth c Z x code maxLocals ret) (Z0 : n0 ≤ h0.size)   (rr : Int32) (hP : ∀ v h L, Fr n0 L → Keep h0 h [] → E0 Z h0  rr v h → P v h L)
    {T : State} {locs : List Loc} {h : Heap} (X : Stand p l e room_1 s m args below meth c T locs 0 0) (e0 : T.heap = h) (N : Fr n0 locs) (K : Keep h0 h []) (x0 : Int32) (x1 : Int32) (x2 : Int32) (x3 : Int32) (x4 : Int32) (hv : f0_0 x0 x1 x2 x3 x4 = some rr) :
    own_WP p e below (own_Q s P room_1.cells room_1.slots) T (mkF m 0 #[.val (.int x0), .val (.int x1), .val (.int x2), .val (.int x3), .val (.int x4), .unset, .unset, .unset, .unset, .unset, .unset, .unset, .unset, .unset, .unset, .unset] []) := by
  obtain ⟨hx, hZ, hby, hml, hown, hnm, hret, hlk⟩ := id C
  replace hown : s.vm.findClass "com/example/objwire/objwire/ndr/NdrWriterToByteArrayPinLaw" = some m.cls := hown
  unfold f0_0 at hv
  show own_WP p e below _ T (mkF m 0 #[.val (.int x0), .val (.int x1), .val (.int x2), .val (.int x3), .val (.int x4), .unset, .unset, .unset, .unset, .unset, .unset, .unset, .unset, .unset, .unset, .unset] [])
  refine own_go (fun _ => XS.iloadN X.here hx rfl (hb hby at_0) rfl) ?_
  show own_WP p e below _ T (mkF m 1 #[.val (.int x0), .val (.int x1), .val (.int x2), .val (.int x3), .val (.int x4), .unset, .unset, .unset, .unset, .unset, .unset, .unset, .unset, .unset, .unset, .unset] [(.int x3)])
  refine own_go (fun _ => XS.bipush X.here hx rfl (hb hby at_1)) ?_
  show own_WP p e below _ T (mkF m 3 #[.val (.int x0), .val (.int x1), .val (.int x2), .val (.int x3), .val (.int x4), .unset, .unset, .unset, .unset, .unset, .unset, .unset, .unset, .unset, .unset, .unset] [(.int (127 : Int32)), (.int x3)])
  refine own_go (fun _ => XS.iand X.here hx rfl (hb hby at_3) rfl) ?_
  show own_WP p e below _ T (mkF m 4 #[.val (.int x0), .val (.int x1), .val (.int x2), .val (.int x3), .val (.int x4), .unset, .unset, .unset, .unset, .unset, .unset, .unset, .unset, .unset, .unset, .unset] [(.int (x3 &&& (127 : Int32)))])
  refine own_go (fun _ => XS.istore X.here hx rfl (hb hby at_4) rfl (l' := #[.val (.int x0), .val (.int x1), .val (.int x2), .val (.int x3), .val (.int x4), .val (.int (x3 &&& (127 : Int32))), .unset, .unset, .unset, .unset, .unset, .unset, .unset, .unset, .unset, .unset]) rfl) ?_
  show own_WP p e below _ T (mkF m 6 #[.val (.int x0), .val (.int x1), .val (.int x2), .val (.int x3), .val (.int x4), .val (.int (x3 &&& (127 : Int32))), .unset, .unset, .unset, .unset, .unset, .unset, .unset, .unset, .unset, .unset] [])
  refine own_go (fun _ => XS.iconst X.here hx rfl (hb hby at_6)) ?_
  show own_WP p e below _ T (mkF m 7 #[.val (.int x0), .val (.int x1), .val (.int x2), .val (.int x3), .val (.int x4), .val (.int (x3 &&& (127 : Int32))), .unset, .unset, .unset, .unset, .unset, .unset, .unset, .unset, .unset, .unset] [(.int (1 : Int32))])
  refine own_go (fun _ => XS.iload X.here hx rfl (hb hby at_7) rfl) ?_
  show own_WP p e below _ T (mkF m 9 #[.val (.int x0), .val (.int x1), .val (.int x2), .val (.int x3), .val (.int x4), .val (.int (x3 &&& (127 : Int32))), .unset, .unset, .unset, .unset, .unset, .unset, .unset, .unset, .unset, .unset] [(.int x4), (.int (1 : Int32))])
  refine own_go (fun _ => XS.bipush X.here hx rfl (hb hby at_9)) ?_
  show own_WP p e below _ T (mkF m 11 #[.val (.int x0), .val (.int x1), .val (.int x2), .val (.int x3), .val (.int x4), .val (.int (x3 &&& (127 : Int32))), .unset, .unset, .unset, .unset, .unset, .unset, .unset, .unset, .unset, .unset] [(.int (8 : Int32)), (.int x4), (.int (1 : Int32))])
  refine own_go (fun _ => XT.iushr X.here hx rfl (hb hby at_11) rfl) ?_
  show own_WP p e below _ T (mkF m 12 #[.val (.int x0), .val (.int x1), .val (.int x2), .val (.int x3), .val (.int x4), .val (.int (x3 &&& (127 : Int32))), .unset, .unset, .unset, .unset, .unset, .unset, .unset, .unset, .unset, .unset] [(.int (XT.ushr x4 (8 : Int32))), (.int (1 : Int32))])
  refine own_go (fun _ => XS.bipush X.here hx rfl (hb hby at_12)) ?_
  show own_WP p e below _ T (mkF m 14 #[.val (.int x0), .val (.int x1), .val (.int x2), .val (.int x3), .val (.int x4), .val (.int (x3 &&& (127 : Int32))), .unset, .unset, .unset, .unset, .unset, .unset, .unset, .unset, .unset, .unset] [(.int (7 : Int32)), (.int (XT.ushr x4 (8 : Int32))), (.int (1 : Int32))])
  refine own_go (fun _ => XS.iand X.here hx rfl (hb hby at_14) rfl) ?_
  show own_WP p e below _ T (mkF m 15 #[.val (.int x0), .val (.int x1), .val (.int x2), .val (.int x3), .val (.int x4), .val (.int (x3 &&& (127 : Int32))), .unset, .unset, .unset, .unset, .unset, .unset, .unset, .unset, .unset, .unset] [(.int ((XT.ushr x4 (8 : Int32)) &&& (7 : Int32))), (.int (1 : Int32))])
  refine own_go (fun _ => XS.iadd X.here hx rfl (hb hby at_15) rfl) ?_
  show own_WP p e below _ T (mkF m 16 #[.val (.int x0), .val (.int x1), .val (.int x2), .val (.int x3), .val (.int x4), .val (.int (x3 &&& (127 : Int32))), .unset, .unset, .unset, .unset, .unset, .unset, .unset, .unset, .unset, .unset] [(.int ((1 : Int32) + ((XT.ushr x4 (8 : Int32)) &&& (7 : Int32))))])
  generalize ((1 : Int32) + ((XT.ushr x4 (8 : Int32)) &&& (7 : Int32))) = y1 at hv ⊢
  replace hv := own_letE hv
  show own_WP p e below _ T (mkF m 16 #[.val (.int x0), .val (.int x1), .val (.int x2), .val (.int x3), .val (.int x4), .val (.int (x3 &&& (127 : Int32))), .unset, .unset, .unset, .unset, .unset, .unset, .unset, .unset, .unset, .unset] [(.int y1)])
  refine own_go (fun _ => XS.istore X.here hx rfl (hb hby at_16) rfl (l' := #[.val (.int x0), .val (.int x1), .val (.int x2), .val (.int x3), .val (.int x4), .val (.int (x3 &&& (127 : Int32))), .val (.int y1), .unset, .unset, .unset, .unset, .unset, .unset, .unset, .unset, .unset]) rfl) ?_
  show own_WP p e below _ T (mkF m 18 #[.val (.int x0), .val (.int x1), .val (.int x2), .val (.int x3), .val (.int x4), .val (.int (x3 &&& (127 : Int32))), .val (.int y1), .unset, .unset, .unset, .unset, .unset, .unset, .unset, .unset, .unset] [])
  refine own_go (fun _ => XS.iload X.here hx rfl (hb hby at_18) rfl) ?_
  show own_WP p e below _ T (mkF m 20 #[.val (.int x0), .val (.int x1), .val (.int x2), .val (.int x3), .val (.int x4), .val (.int (x3 &&& (127 : Int32))), .val (.int y1), .unset, .unset, .unset, .unset, .unset, .unset, .unset, .unset, .unset] [(.int (x3 &&& (127 : Int32)))])
  by_cases h20 : (x3 &&& (127 : Int32)) < 0 ∨ 127 < (x3 &&& (127 : Int32)).toInt
  · cases ((if_pos h20).symm.trans hv)
  replace hv := (if_neg h20).symm.trans hv
  obtain ⟨T2, h2, b20, X2, e2, E2, hb_b20, V_b20, st2⟩ := own_newI X C e0 (aty := .byte) (ty := .byte) rfl rfl rfl (hw _ (List.mem_of_getElem? (i := 0) rfl)) (n := (x3 &&& (127 : Int32))) (fun q => h20 (Or.inl q)) (cap := 127) (own_cap (k := 127) rfl (fun q => h20 (Or.inr q))) (by decide) (by decide) (by decide) (pc := 20) (Ls := #[.val (.int x0), .val (.int x1), .val (.int x2), .val (.int x3), .val (.int x4), .val (.int (x3 &&& (127 : Int32))), .val (.int y1), .unset, .unset, .unset, .unset, .unset, .unset, .unset, .unset, .unset]) (rest := []) (hb hby at_20)
  refine own_go st2 ?_
  have g_b20 : n0 ≤ b20 := by have q := K.1; omega
  have z_b20 : h0.size ≤ b20 := by have q := K.1; omega
  replace K := K.ext E2
  show own_WP p e below _ T2 (mkF m 22 #[.val (.int x0), .val (.int x1), .val (.int x2), .val (.int x3), .val (.int x4), .val (.int (x3 &&& (127 : Int32))), .val (.int y1), .unset, .unset, .unset, .unset, .unset, .unset, .unset, .unset, .unset] [(.ref b20)])
  refine own_go (fun _ => XS.astore X2.here hx rfl (hb hby at_22) rfl rfl (l' := #[.val (.int x0), .val (.int x1), .val (.int x2), .val (.int x3), .val (.int x4), .val (.int (x3 &&& (127 : Int32))), .val (.int y1), .val (.ref b20), .unset, .unset, .unset, .unset, .unset, .unset, .unset, .unset]) rfl) ?_
  show own_WP p e below _ T2 (mkF m 24 #[.val (.int x0), .val (.int x1), .val (.int x2), .val (.int x3), .val (.int x4), .val (.int (x3 &&& (127 : Int32))), .val (.int y1), .val (.ref b20), .unset, .unset, .unset, .unset, .unset, .unset, .unset, .unset] [])
  refine own_go (fun _ => XS.iload X2.here hx rfl (hb hby at_24) rfl) ?_
  show own_WP p e below _ T2 (mkF m 26 #[.val (.int x0), .val (.int x1), .val (.int x2), .val (.int x3), .val (.int x4), .val (.int (x3 &&& (127 : Int32))), .val (.int y1), .val (.ref b20), .unset, .unset, .unset, .unset, .unset, .unset, .unset, .unset] [(.int (x3 &&& (127 : Int32)))])
  by_cases h26 : (0 : Int32) < (x3 &&& (127 : Int32))
  · replace hv := (if_pos h26).symm.trans hv
    refine own_go (fun _ => XS.ifNo X2.here hx rfl (hb hby at_26) rfl (XT.i0_le_f h26)) ?_
    show own_WP p e below _ T2 (mkF m 29 #[.val (.int x0), .val (.int x1), .val (.int x2), .val (.int x3), .val (.int x4), .val (.int (x3 &&& (127 : Int32))), .val (.int y1), .val (.ref b20), .unset, .unset, .unset, .unset, .unset, .unset, .unset, .unset] [])
    refine own_go (fun _ => XS.aload X2.here hx rfl (hb hby at_29) rfl rfl) ?_
    show own_WP p e below _ T2 (mkF m 31 #[.val (.int x0), .val (.int x1), .val (.int x2), .val (.int x3), .val (.int x4), .val (.int (x3 &&& (127 : Int32))), .val (.int y1), .val (.ref b20), .unset, .unset, .unset, .unset, .unset, .unset, .unset, .unset] [(.ref b20)])
    refine own_go (fun _ => XS.iload X2.here hx rfl (hb hby at_31) rfl) ?_
    show own_WP p e below _ T2 (mkF m 33 #[.val (.int x0), .val (.int x1), .val (.int x2), .val (.int x3), .val (.int x4), .val (.int (x3 &&& (127 : Int32))), .val (.int y1), .val (.ref b20), .unset, .unset, .unset, .unset, .unset, .unset, .unset, .unset] [(.int (x3 &&& (127 : Int32))), (.ref b20)])
    refine own_go (fun _ => XS.iconst X2.here hx rfl (hb hby at_33)) ?_
    show own_WP p e below _ T2 (mkF m 34 #[.val (.int x0), .val (.int x1), .val (.int x2), .val (.int x3), .val (.int x4), .val (.int (x3 &&& (127 : Int32))), .val (.int y1), .val (.ref b20), .unset, .unset, .unset, .unset, .unset, .unset, .unset, .unset] [(.int (1 : Int32)), (.int (x3 &&& (127 : Int32))), (.ref b20)])
    refine own_go (fun _ => XS.isub X2.here hx rfl (hb hby at_34) rfl) ?_
    show own_WP p e below _ T2 (mkF m 35 #[.val (.int x0), .val (.int x1), .val (.int x2), .val (.int x3), .val (.int x4), .val (.int (x3 &&& (127 : Int32))), .val (.int y1), .val (.ref b20), .unset, .unset, .unset, .unset, .unset, .unset, .unset, .unset] [(.int ((x3 &&& (127 : Int32)) - (1 : Int32))), (.ref b20)])
    refine own_go (fun _ => XS.iload X2.here hx rfl (hb hby at_35) rfl) ?_
    show own_WP p e below _ T2 (mkF m 37 #[.val (.int x0), .val (.int x1), .val (.int x2), .val (.int x3), .val (.int x4), .val (.int (x3 &&& (127 : Int32))), .val (.int y1), .val (.ref b20), .unset, .unset, .unset, .unset, .unset, .unset, .unset, .unset] [(.int x4), (.int ((x3 &&& (127 : Int32)) - (1 : Int32))), (.ref b20)])
    refine own_go (fun _ => XS.i2b X2.here hx rfl (hb hby at_37) rfl) ?_
    show own_WP p e below _ T2 (mkF m 38 #[.val (.int x0), .val (.int x1), .val (.int x2), .val (.int x3), .val (.int x4), .val (.int (x3 &&& (127 : Int32))), .val (.int y1), .val (.ref b20), .unset, .unset, .unset, .unset, .unset, .unset, .unset, .unset] [(.int (x4.toInt8.toInt32)), (.int ((x3 &&& (127 : Int32)) - (1 : Int32))), (.ref b20)])
    obtain ⟨u3, hg3, hv⟩ := own_bind hv
    obtain ⟨T3, h3, X3, e3, W3, V'3, st3⟩ := own_bastore X2 C e2 V_b20 (j := ((x3 &&& (127 : Int32)) - (1 : Int32))) (x := (x4.toInt8.toInt32)) hg3 (hb hby at_38)
    refine own_go st3 ?_
    replace V_b20 := V'3
    clear V'3
    replace K := K.wr W3 (Or.inr (by omega))
    replace N := Fr.snoc X3 N (by omega)
    exact b0_39 hw C Z0 rr hP X3 e3 N K g_b20 z_b20 V_b20 x0 x1 x2 x3 x4 (x3 &&& (127 : Int32)) y1 hv
  · replace hv := (if_neg h26).symm.trans hv
    refine own_go (fun _ => XS.ifYes X2.here hx rfl (pc0 := 26) (pc' := 39) rfl (hb hby at_26) rfl (XT.i0_le_t h26) (by decide) (by decide)) ?_
    exact b0_39 hw C Z0 rr hP X2 e2 N K g_b20 z_b20 V_b20 x0 x1 x2 x3 x4 (x3 &&& (127 : Int32)) y1 hv
theorem ef0 (m : MethodId) (x0 : Int32) (x1 : Int32) (x2 : Int32) (x3 : Int32) (x4 : Int32) : entryFrame m #[(.int x0), (.int x1), (.int x2), (.int x3), (.int x4)] maxLocals = (mkF m 0 #[.val (.int x0), .val (.int x1), .val (.int x2), .val (.int x3), .val (.int x4), .unset, .unset, .unset, .unset, .unset, .unset, .unset, .unset, .unset, .unset, .unset] []) := by first | (simp [entryFrame, mkF, argsToLocals, Value.category, maxLocals]; done) | rfl
theorem pn0 : plainFor x = true := plainFor_of_name (by first | (simp [plainName, overriddenIn, x]; done) | decide +kernel)
theorem own_ti (n : Nat) (h : n < 100000) : (Int32.ofNat n).toInt = n := Int32.toInt_ofNat_of_lt (by show n < 2 ^ 31; omega)
theorem own_tn (n : Nat) (h : n < 100000) : (Int32.ofNat n).toNatClampNeg = n := by
  show (Int32.ofNat n).toInt.toNat = n
  rw [own_ti n h]; rfl
theorem own_nn (n : Nat) (h : n < 100000) : ¬ Int32.ofNat n < 0 := by
  rw [Int32.lt_iff_toInt_lt, own_ti n h]
  show ¬ ((n : Int) < 0)
  omega
theorem own_lt (i j : Nat) (hi : i < 100000) (hj : j < 100000) : Int32.ofNat i < Int32.ofNat j ↔ i < j := by
  rw [Int32.lt_iff_toInt_lt, own_ti i hi, own_ti j hj]; omega
theorem own_eq (i j : Nat) (hi : i < 100000) (hj : j < 100000) : Int32.ofNat i = Int32.ofNat j ↔ i = j := by
  rw [← Int32.toInt_inj, own_ti i hi, own_ti j hj]; omega
theorem own_add (i j : Nat) : Int32.ofNat i + Int32.ofNat j = Int32.ofNat (i + j) := (Int32.ofNat_add i j).symm
theorem own_sub (i k : Nat) (h : k ≤ i) (hi : i < 100000) : Int32.ofNat i - Int32.ofNat k = Int32.ofNat (i - k) := by
  apply Int32.toInt_inj.mp
  have a := c_isub (Int32.ofNat i) (Int32.ofNat k)
  have r := rng32 (Int32.ofNat i - Int32.ofNat k)
  rw [own_ti i hi, own_ti k (by omega)] at a
  rw [own_ti (i - k) (by omega)]
  omega
theorem own_modn (i n : Nat) (hi : i < 100000) (hn : n < 100000) : Int32.ofNat i % Int32.ofNat n = Int32.ofNat (i % n) := by
  apply Int32.toInt_inj.mp
  have k : i % n < 100000 := Nat.lt_of_le_of_lt (Nat.mod_le i n) hi
  rw [Int32.toInt_mod, own_ti i hi, own_ti n hn, own_ti _ k, Int.tmod_eq_emod_of_nonneg (by omega)]
  rfl
abbrev own_z (k : Nat) : List Int32 := List.replicate k 0
theorem own_copyOf (vs : List Int32) (n : Nat) (hn : n ≤ 256) (hl : vs.length ≤ n) : f10_0 vs (Int32.ofNat n) = some (vs ++ own_z (n - vs.length)) := by
  unfold f10_0
  by_cases he : n = vs.length
  · rw [if_pos ((own_eq n vs.length (by omega) (by omega)).mpr he), if_neg (by omega), he]
    simp
  · rw [if_neg (fun q => he ((own_eq n vs.length (by omega) (by omega)).mp q))]
    rw [if_neg (show ¬ (Int32.ofNat n < 0 ∨ 256 < (Int32.ofNat n).toInt) by
      rintro (q | q)
      · exact own_nn n (by omega) q
      · rw [own_ti n (by omega)] at q; omega)]
    have e : f11_0 (Int32.ofNat vs.length) (Int32.ofNat n) = Int32.ofNat vs.length := by
      unfold f11_0
      rw [if_neg (fun q => absurd ((own_lt n vs.length (by omega) (by omega)).mp q) (by omega))]
    rw [e]
    unfold own_copyL
    have t0 : (0 : Int32).toNatClampNeg = 0 := rfl
    rw [own_tn n (by omega), own_tn vs.length (by omega), t0, List.length_replicate]
    rw [if_neg (by
      rintro (q | q | q | q | q)
      · exact absurd q (by decide)
      · exact absurd q (by decide)
      · exact own_nn _ (by omega) q
      · omega
      · omega)]
    simp
theorem own_toB (cs : List Int32) (k : Nat) (hc : cs.length ≤ 144) (hk : k ≤ 256) : f57_0 (cs ++ own_z k) (Int32.ofNat cs.length) = some cs := by
  unfold f57_0
  have hlen : (cs ++ own_z k).length = cs.length + k := by simp
  rw [hlen]
  by_cases he : k = 0
  · subst he
    rw [if_pos (by rw [Nat.add_zero]), if_neg (by omega)]
    simp
  · rw [if_neg (fun q => he (by have := (own_eq cs.length (cs.length + k) (by omega) (by omega)).mp q; omega))]
    rw [if_neg (show ¬ (Int32.ofNat cs.length < 0 ∨ 144 < (Int32.ofNat cs.length).toInt) by
      rintro (q | q)
      · exact own_nn _ (by omega) q
      · rw [own_ti _ (by omega)] at q; omega)]
    have e : f11_0 (Int32.ofNat (cs.length + k)) (Int32.ofNat cs.length) = Int32.ofNat cs.length := by
      unfold f11_0
      rw [if_pos ((own_lt cs.length (cs.length + k) (by omega) (by omega)).mpr (by omega))]
    rw [e]
    unfold own_copyL
    have t0 : (0 : Int32).toNatClampNeg = 0 := rfl
    rw [own_tn cs.length (by omega), t0, List.length_replicate, hlen]
    rw [if_neg (by
      rintro (q | q | q | q | q)
      · exact absurd q (by decide)
      · exact absurd q (by decide)
      · exact own_nn _ (by omega) q
      · omega
      · omega)]
    simp
theorem own_ensure (cs : List Int32) (k e : Nat) (hL : cs.length + k = 64 ∨ cs.length + k = 128 ∨ cs.length + k = 256) (h64 : cs.length + k = 64 → cs.length + e ≤ 128) (h : cs.length + e ≤ 256) :
    ∃ k', e ≤ k' ∧ (cs.length + k' = 64 ∨ cs.length + k' = 128 ∨ cs.length + k' = 256) ∧ f4_0 (cs ++ own_z k) (Int32.ofNat cs.length) (Int32.ofNat e) = some (Int32.ofNat cs.length, cs ++ own_z k') := by
  unfold f4_0
  have hlen : (cs ++ own_z k).length = cs.length + k := by simp
  rw [hlen, own_add]
  by_cases hb : cs.length + k < cs.length + e
  · rw [if_pos ((own_lt _ _ (by omega) (by omega)).mpr hb)]
    have e2 : Int32.ofNat (cs.length + k) * (2 : Int32) = Int32.ofNat ((cs.length + k) * 2) := (Int32.ofNat_mul (cs.length + k) 2).symm
    have e3 : f14_0 (Int32.ofNat ((cs.length + k) * 2)) (Int32.ofNat (cs.length + e)) = Int32.ofNat ((cs.length + k) * 2) := by
      unfold f14_0
      rw [if_neg (fun q => absurd ((own_lt _ _ (by omega) (by omega)).mp q) (by omega))]
    rw [e2, e3, own_copyOf (cs ++ own_z k) ((cs.length + k) * 2) (by omega) (by rw [hlen]; omega), hlen]
    refine ⟨k + ((cs.length + k) * 2 - (cs.length + k)), by omega, by omega, ?_⟩
    simp [List.append_assoc]
  · rw [if_neg (fun q => hb ((own_lt _ _ (by omega) (by omega)).mp q))]
    exact ⟨k, by omega, hL, rfl⟩
theorem own_set1 (cs : List Int32) (k : Nat) (b : Int32) (h : cs.length < 1000) : own_set (cs ++ own_z (k + 1)) (Int32.ofNat cs.length) b = some ((cs ++ [b]) ++ own_z k) := by
  unfold own_set
  rw [if_neg (own_nn _ (by omega)), own_tn _ (by omega), if_pos (by simp)]
  simp [List.replicate_succ]
theorem own_b8 (x : Int32) : (x.toInt8.toInt32).toInt8.toInt32 = x.toInt8.toInt32 := by
  rw [Int8.toInt8_toInt32]
theorem own_one (i : Nat) : Int32.ofNat i + (1 : Int32) = Int32.ofNat (i + 1) := own_add i 1
theorem own_len1 (cs : List Int32) (b : Int32) : (cs ++ [b]).length = cs.length + 1 := by simp
theorem own_u8 (cs : List Int32) (k : Nat) (x : Int32) (hL : cs.length + k = 64 ∨ cs.length + k = 128 ∨ cs.length + k = 256) (h64 : cs.length + k = 64 → cs.length + 1 ≤ 128) (h : cs.length + 1 ≤ 256) :
    ∃ k', ((cs ++ [x.toInt8.toInt32]).length + k' = 64 ∨ (cs ++ [x.toInt8.toInt32]).length + k' = 128 ∨ (cs ++ [x.toInt8.toInt32]).length + k' = 256) ∧ f3_0 (cs ++ own_z k) (Int32.ofNat cs.length) x = some (Int32.ofNat (cs ++ [x.toInt8.toInt32]).length, (cs ++ [x.toInt8.toInt32]) ++ own_z k') := by
  obtain ⟨k', h1, h2, h3⟩ := own_ensure cs k 1 hL h64 h
  unfold f3_0
  rw [show f4_0 (cs ++ own_z k) (Int32.ofNat cs.length) (1 : Int32) = _ from h3, Option.bind_some]
  dsimp only
  obtain ⟨j, rfl⟩ : ∃ j, k' = j + 1 := ⟨k' - 1, by omega⟩
  rw [own_b8, own_set1 cs j _ (by omega), Option.bind_some, own_one]
  refine ⟨j, ?_, ?_⟩
  · rw [own_len1]; omega
  · rw [own_len1]
theorem own_u16 (cs : List Int32) (k : Nat) (x : Int32) (hL : cs.length + k = 64 ∨ cs.length + k = 128 ∨ cs.length + k = 256) (h64 : cs.length + k = 64 → cs.length + 2 ≤ 128) (h : cs.length + 2 ≤ 256) :
    ∃ k', k' ≤ 256 ∧ f8_0 (cs ++ own_z k) (Int32.ofNat cs.length) x = some (Int32.ofNat (cs.length + 2), (cs ++ [x.toInt8.toInt32, (XT.ushr x (8 : Int32)).toInt8.toInt32]) ++ own_z k') := by
  obtain ⟨k', h1, h2, h3⟩ := own_ensure cs k 2 hL h64 h
  unfold f8_0
  rw [show f4_0 (cs ++ own_z k) (Int32.ofNat cs.length) (2 : Int32) = _ from h3, Option.bind_some]
  dsimp only
  obtain ⟨j, rfl⟩ : ∃ j, k' = j + 1 + 1 := ⟨k' - 2, by omega⟩
  rw [own_b8, own_b8, own_set1 cs (j + 1) _ (by omega), Option.bind_some, own_one, ← own_len1 cs x.toInt8.toInt32, own_set1 _ j _ (by rw [own_len1]; omega), Option.bind_some, own_len1, own_one]
  refine ⟨j, by omega, ?_⟩
  rw [List.append_assoc cs [x.toInt8.toInt32] [(XT.ushr x (8 : Int32)).toInt8.toInt32]]
  rfl
theorem own_u32 (cs : List Int32) (k : Nat) (x : Int32) (hL : cs.length + k = 64 ∨ cs.length + k = 128 ∨ cs.length + k = 256) (h64 : cs.length + k = 64 → cs.length + 4 ≤ 128) (h : cs.length + 4 ≤ 256) :
    ∃ k', (cs.length + 4 + k' = 64 ∨ cs.length + 4 + k' = 128 ∨ cs.length + 4 + k' = 256) ∧ f6_0 (cs ++ own_z k) (Int32.ofNat cs.length) x = some (Int32.ofNat (cs.length + 4), (cs ++ [x.toInt8.toInt32, (XT.ushr x (8 : Int32)).toInt8.toInt32, (XT.ushr x (16 : Int32)).toInt8.toInt32, (XT.ushr x (24 : Int32)).toInt8.toInt32]) ++ own_z k') := by
  obtain ⟨k', h1, h2, h3⟩ := own_ensure cs k 4 hL h64 h
  have s0 : XT.ushr x (0 : Int32) = x := by
    apply Int32.toBitVec_inj.mp
    show x.toBitVec >>> 0 = _
    simp
  unfold f6_0
  rw [show f4_0 (cs ++ own_z k) (Int32.ofNat cs.length) (4 : Int32) = _ from h3, Option.bind_some]
  dsimp only
  obtain ⟨j, rfl⟩ : ∃ j, k' = j + 1 + 1 + 1 + 1 := ⟨k' - 4, by omega⟩
  rw [own_b8, own_b8, own_b8, own_b8, s0, own_set1 cs (j + 1 + 1 + 1) _ (by omega), Option.bind_some, own_one, ← own_len1 cs x.toInt8.toInt32, own_set1 _ (j + 1 + 1) _ (by rw [own_len1]; omega), Option.bind_some, own_one, ← own_len1 _ (XT.ushr x (8 : Int32)).toInt8.toInt32, own_set1 _ (j + 1) _ (by rw [own_len1, own_len1]; omega), Option.bind_some, own_one, ← own_len1 _ (XT.ushr x (16 : Int32)).toInt8.toInt32, own_set1 _ j _ (by rw [own_len1, own_len1, own_len1]; omega), Option.bind_some, own_one]
  refine ⟨j, by omega, ?_⟩
  rw [own_len1, own_len1, own_len1]
  have q : cs ++ [x.toInt8.toInt32] ++ [(XT.ushr x (8 : Int32)).toInt8.toInt32] ++ [(XT.ushr x (16 : Int32)).toInt8.toInt32] ++ [(XT.ushr x (24 : Int32)).toInt8.toInt32] = cs ++ [x.toInt8.toInt32, (XT.ushr x (8 : Int32)).toInt8.toInt32, (XT.ushr x (16 : Int32)).toInt8.toInt32, (XT.ushr x (24 : Int32)).toInt8.toInt32] := by
    rw [List.append_assoc, List.append_assoc, List.append_assoc]; rfl
  rw [q]
theorem own_bytes (bs cs : List Int32) (k : Nat) (hL : cs.length + k = 64 ∨ cs.length + k = 128 ∨ cs.length + k = 256) (h64 : cs.length + k = 64 → cs.length + bs.length ≤ 128) (h : cs.length + bs.length ≤ 256) :
    ∃ k', ((cs ++ bs).length + k' = 64 ∨ (cs ++ bs).length + k' = 128 ∨ (cs ++ bs).length + k' = 256) ∧ f5_0 bs (cs ++ own_z k) (Int32.ofNat cs.length) = some (Int32.ofNat (cs ++ bs).length, (cs ++ bs) ++ own_z k') := by
  obtain ⟨k', h1, h2, h3⟩ := own_ensure cs k bs.length hL h64 h
  unfold f5_0
  rw [h3, Option.bind_some]
  dsimp only
  have c : own_copyL bs (0 : Int32) (cs ++ own_z k') (Int32.ofNat cs.length) (Int32.ofNat bs.length) = some ((cs ++ bs) ++ own_z (k' - bs.length)) := by
    unfold own_copyL
    have t0 : (0 : Int32).toNatClampNeg = 0 := rfl
    rw [own_tn cs.length (by omega), own_tn bs.length (by omega), t0, if_neg (by
      rintro (q | q | q | q | q)
      · exact absurd q (by decide)
      · exact own_nn _ (by omega) q
      · exact own_nn _ (by omega) q
      · omega
      · simp at q; omega)]
    simp [List.drop_append]
  rw [c, Option.bind_some, own_add]
  refine ⟨k' - bs.length, ?_, ?_⟩
  · rw [List.length_append]; omega
  · rw [List.length_append]
def own_pad (s n : Nat) : Nat := (n - s % n) % n
theorem own_align (cs : List Int32) (k n : Nat) (hn0 : 0 < n) (hn : n ≤ 8) (hL : cs.length + k = 64 ∨ cs.length + k = 128 ∨ cs.length + k = 256) (h64 : cs.length + k = 64 → cs.length + 8 ≤ 128) (h : cs.length + 8 ≤ 256) :
    ∃ k', (cs.length + own_pad cs.length n + k' = 64 ∨ cs.length + own_pad cs.length n + k' = 128 ∨ cs.length + own_pad cs.length n + k' = 256) ∧ f7_0 (cs ++ own_z k) (Int32.ofNat cs.length) (Int32.ofNat n) = some (Int32.ofNat (cs.length + own_pad cs.length n), (cs ++ own_z (own_pad cs.length n)) ++ own_z k') := by
  have hp : own_pad cs.length n < n := Nat.mod_lt _ hn0
  have e : (Int32.ofNat n - (Int32.ofNat cs.length % Int32.ofNat n)) % Int32.ofNat n = Int32.ofNat (own_pad cs.length n) := by
    have hm : cs.length % n < n := Nat.mod_lt _ hn0
    rw [own_modn _ _ (by omega) (by omega), own_sub n (cs.length % n) (by omega) (by omega), own_modn _ _ (by omega) (by omega)]
    rfl
  have hz : ¬ Int32.ofNat n = (0 : Int32) := fun q => absurd ((own_eq n 0 (by omega) (by decide)).mp q) (by omega)
  obtain ⟨k', h1, h2, h3⟩ := own_ensure cs k (own_pad cs.length n) hL (fun q => by have := h64 q; omega) (by omega)
  unfold f7_0
  rw [if_neg hz, if_neg hz, e, h3, Option.bind_some]
  dsimp only
  rw [own_add]
  refine ⟨k' - own_pad cs.length n, by omega, ?_⟩
  have z : own_z k' = own_z (own_pad cs.length n) ++ own_z (k' - own_pad cs.length n) := by
    rw [List.replicate_append_replicate]
    congr 1; omega
  rw [z, List.append_assoc]
theorem own_getn (vs : List Int32) (i : Nat) (hi : i < 100000) : own_get vs (Int32.ofNat i) = vs[i]? := by
  unfold own_get
  rw [if_neg (own_nn i hi), own_tn i hi]
theorem own_setn (vs : List Int32) (i : Nat) (b : Int32) (hi : i < 100000) (h : i < vs.length) : own_set vs (Int32.ofNat i) b = some (vs.set i b) := by
  unfold own_set
  rw [if_neg (own_nn i hi), own_tn i hi, if_pos h]
theorem own_padEq (s n : Nat) (hn0 : 0 < n) : s + own_pad s n = ((s + n - 1) / n) * n := by
  unfold own_pad
  have h1 := Nat.div_add_mod s n
  have h2 := Nat.mod_lt s hn0
  generalize s / n = q at *
  generalize s % n = r at *
  by_cases hr : r = 0
  · subst hr
    have e : (s + n - 1) / n = q := by
      rw [show s + n - 1 = (n - 1) + n * q by omega, Nat.add_mul_div_left _ _ hn0, Nat.div_eq_of_lt (by omega)]
      omega
    rw [e, Nat.sub_zero, Nat.mod_self, Nat.mul_comm q n]
    omega
  · have e : (s + n - 1) / n = q + 1 := by
      rw [show s + n - 1 = (r - 1) + n * (q + 1) by rw [Nat.mul_add]; omega, Nat.add_mul_div_left _ _ hn0, Nat.div_eq_of_lt (by omega)]
      omega
    rw [e, Nat.mod_eq_of_lt (by omega), Nat.mul_comm (q + 1) n, Nat.mul_add]
    omega
theorem own_433 (r data : List Int32) (sz x0 x2 : Int32) (q : Nat) (hq : q < 1000) (hlen : r.length = q + 2) (hB : f9_0 sz data = some r) (g0 : r[0]? = some x0.toInt8.toInt32) (gd1 : r[q + 1]? = some (XT.ushr x2 (8 : Int32)).toInt8.toInt32) : f0_433 sz data r x0 x2 (Int32.ofNat q) (Int32.ofNat (q + 2)) (1 : Int32) = some 1 := by
  unfold f0_433
  have z0 : (0 : Int32) = Int32.ofNat 0 := rfl
  rw [show own_get r (0 : Int32) = r[0]? from own_getn r 0 (by decide), g0, Option.bind_some]
  rw [show own_set r (0 : Int32) _ = some (r.set 0 _) from own_setn r 0 _ (by decide) (by omega), Option.bind_some, own_one]
  obtain ⟨w, hw⟩ : ∃ w, own_get (r.set 0 (((x0.toInt8.toInt32 + 1).toInt8.toInt32).toInt8.toInt32)) (Int32.ofNat (q + 1)) = some w := by
    rw [own_getn _ _ (by omega)]
    exact ⟨_, List.getElem?_eq_getElem (by rw [List.length_set]; omega)⟩
  rw [hw, Option.bind_some, own_setn _ (q + 1) _ (by omega) (by rw [List.length_set]; omega), Option.bind_some, hB, Option.bind_some, if_neg (by decide), hlen, if_pos rfl]
  rw [show own_get r (0 : Int32) = r[0]? from own_getn r 0 (by decide), g0, Option.bind_some, if_pos rfl, own_getn r (q + 1) (by omega), gd1, Option.bind_some, if_pos rfl]
theorem own_396 (r data : List Int32) (sz x0 x2 : Int32) (q : Nat) (hq : q < 1000) (hlen : r.length = q + 2) (hB : f9_0 sz data = some r) (g0 : r[0]? = some x0.toInt8.toInt32) (gd0 : r[q]? = some x2.toInt8.toInt32) (gd1 : r[q + 1]? = some (XT.ushr x2 (8 : Int32)).toInt8.toInt32) : f0_396 sz data r x0 x2 (Int32.ofNat q) (Int32.ofNat (q + 2)) (1 : Int32) = some 1 := by
  unfold f0_396
  rw [if_neg (by decide), own_getn r q (by omega), gd0, Option.bind_some, if_pos rfl, own_one, own_getn r (q + 1) (by omega), gd1, Option.bind_some, if_pos rfl]
  exact own_433 r data sz x0 x2 q hq hlen hB g0 gd1
theorem own_13 (r : List Int32) (b j pad : Nat) (hb : b < 1000) (hj : j < 1000) (hp : pad < 1000) (g : j < pad → r[b + j]? = some 0) : f13_0 r (Int32.ofNat b) (Int32.ofNat j) (Int32.ofNat pad) = some 1 := by
  unfold f13_0
  by_cases h : j < pad
  · rw [if_pos ((own_lt j pad (by omega) (by omega)).mpr h), own_add, own_getn r (b + j) (by omega), g h, Option.bind_some, if_pos rfl]
  · rw [if_neg (fun q => h ((own_lt j pad (by omega) (by omega)).mp q))]
theorem own_292 (r data : List Int32) (sz x0 x2 : Int32) (b q pad : Nat) (hb : b < 1000) (hp : pad < 1000) (hq : q < 1000) (hlen : r.length = q + 2) (hB : f9_0 sz data = some r) (g0 : r[0]? = some x0.toInt8.toInt32) (gp : ∀ j, j < pad → r[b + j]? = some 0) (gd0 : r[q]? = some x2.toInt8.toInt32) (gd1 : r[q + 1]? = some (XT.ushr x2 (8 : Int32)).toInt8.toInt32) : f0_292 sz data r x0 x2 (Int32.ofNat b) (Int32.ofNat q) (Int32.ofNat pad) (Int32.ofNat (q + 2)) (1 : Int32) = some 1 := by
  unfold f0_292
  have s := fun j (hj : j < 1000) => own_13 r b j pad hb hj hp (gp j)
  rw [if_neg (by decide), show f13_0 r (Int32.ofNat b) (0 : Int32) (Int32.ofNat pad) = _ from s 0 (by decide), Option.bind_some, if_neg (by decide), show f13_0 r (Int32.ofNat b) (1 : Int32) (Int32.ofNat pad) = _ from s 1 (by decide), Option.bind_some, if_neg (by decide), show f13_0 r (Int32.ofNat b) (2 : Int32) (Int32.ofNat pad) = _ from s 2 (by decide), Option.bind_some, if_neg (by decide), show f13_0 r (Int32.ofNat b) (3 : Int32) (Int32.ofNat pad) = _ from s 3 (by decide), Option.bind_some, if_neg (by decide),
    show f13_0 r (Int32.ofNat b) (4 : Int32) (Int32.ofNat pad) = _ from s 4 (by decide), Option.bind_some, if_neg (by decide), show f13_0 r (Int32.ofNat b) (5 : Int32) (Int32.ofNat pad) = _ from s 5 (by decide), Option.bind_some, if_neg (by decide), show f13_0 r (Int32.ofNat b) (6 : Int32) (Int32.ofNat pad) = _ from s 6 (by decide), Option.bind_some, if_neg (by decide)]
  exact own_396 r data sz x0 x2 q hq hlen hB g0 gd0 gd1
theorem own_146 (r data : List Int32) (sz x0 x1 x2 x4 : Int32) (m q pad : Nat) (hm : m < 500) (hp : pad < 500) (hq : q < 1000) (hlen : r.length = q + 2) (hB : f9_0 sz data = some r) (g0 : r[0]? = some x0.toInt8.toInt32) (gm : 0 < m → r[m]? = some x4.toInt8.toInt32) (g1 : 1 < m → r[1]? = some 0 ∧ r[m - 1]? = some 0)
    (gb0 : r[1 + m]? = some x1.toInt8.toInt32) (gb1 : r[2 + m]? = some (XT.ushr x1 (8 : Int32)).toInt8.toInt32) (gb2 : r[3 + m]? = some (XT.ushr x1 (16 : Int32)).toInt8.toInt32) (gb3 : r[4 + m]? = some (XT.ushr x1 (24 : Int32)).toInt8.toInt32)
    (gp : ∀ j, j < pad → r[5 + m + j]? = some 0) (gd0 : r[q]? = some x2.toInt8.toInt32) (gd1 : r[q + 1]? = some (XT.ushr x2 (8 : Int32)).toInt8.toInt32) : f0_146 sz data r x0 x1 x2 x4 (Int32.ofNat m) (Int32.ofNat (5 + m)) (Int32.ofNat q) (Int32.ofNat pad) (Int32.ofNat (q + 2)) = some 1 := by
  have k225 : f0_225 sz data r x0 x1 x2 (Int32.ofNat m) (Int32.ofNat (5 + m)) (Int32.ofNat q) (Int32.ofNat pad) (Int32.ofNat (q + 2)) (1 : Int32) = some 1 := by
    unfold f0_225
    have a1 : (1 : Int32) + Int32.ofNat m = Int32.ofNat (1 + m) := own_add 1 m
    have a2 : (2 : Int32) + Int32.ofNat m = Int32.ofNat (2 + m) := own_add 2 m
    have a3 : (3 : Int32) + Int32.ofNat m = Int32.ofNat (3 + m) := own_add 3 m
    have a4 : (4 : Int32) + Int32.ofNat m = Int32.ofNat (4 + m) := own_add 4 m
    rw [if_neg (by decide), a1, a2, a3, a4, own_getn r _ (by omega), gb0, Option.bind_some, if_pos rfl, own_getn r _ (by omega), gb1, Option.bind_some, if_pos rfl, own_getn r _ (by omega), gb2, Option.bind_some, if_pos rfl, own_getn r _ (by omega), gb3, Option.bind_some, if_pos rfl]
    exact own_292 r data sz x0 x2 (5 + m) q pad (by omega) (by omega) hq hlen hB g0 gp gd0 gd1
  have k190 : f0_190 sz data r x0 x1 x2 (Int32.ofNat m) (Int32.ofNat (5 + m)) (Int32.ofNat q) (Int32.ofNat pad) (Int32.ofNat (q + 2)) (1 : Int32) = some 1 := by
    unfold f0_190
    by_cases h : 1 < m
    · obtain ⟨g2, g3⟩ := g1 h
      have a1 : Int32.ofNat m - (1 : Int32) = Int32.ofNat (m - 1) := own_sub m 1 (by omega) (by omega)
      rw [if_pos (show (1 : Int32) < Int32.ofNat m from (own_lt 1 m (by decide) (by omega)).mpr h), if_neg (by decide), show own_get r (1 : Int32) = r[1]? from own_getn r 1 (by decide), g2, Option.bind_some, if_pos rfl, a1, own_getn r _ (by omega), g3, Option.bind_some, if_pos rfl]
      exact k225
    · rw [if_neg (show ¬ (1 : Int32) < Int32.ofNat m from fun z => h ((own_lt 1 m (by decide) (by omega)).mp z))]
      exact k225
  unfold f0_146
  rw [show own_get r (0 : Int32) = r[0]? from own_getn r 0 (by decide), g0, Option.bind_some, if_pos rfl]
  unfold f0_160
  by_cases h : 0 < m
  · rw [if_pos (show (0 : Int32) < Int32.ofNat m from (own_lt 0 m (by decide) (by omega)).mpr h), if_neg (by decide), own_getn r _ (by omega), gm h, Option.bind_some, if_pos rfl]
    exact k190
  · rw [if_neg (show ¬ (0 : Int32) < Int32.ofNat m from fun z => h ((own_lt 0 m (by decide) (by omega)).mp z))]
    exact k190
theorem own_r (l1 l2 : List Int32) (n i : Nat) (h : n = l1.length + i) : (l1 ++ l2)[n]? = l2[i]? := by
  subst h
  rw [List.getElem?_append_right (by omega)]
  congr 1; omega
theorem own_divn (i n : Nat) (hi : i < 100000) (hn0 : 0 < n) (hn : n < 100000) : Int32.ofNat i / Int32.ofNat n = Int32.ofNat (i / n) := by
  apply Int32.toInt_inj.mp
  have k : i / n < 100000 := Nat.lt_of_le_of_lt (Nat.div_le_self i n) hi
  have k2 : (i : Int) / (n : Int) = ((i / n : Nat) : Int) := rfl
  rw [Int32.toInt_div, own_ti i hi, own_ti n hn, own_ti _ k, Int.tdiv_eq_ediv_of_nonneg (by omega), k2]
  clear k2
  generalize i / n = z at k ⊢
  rw [Int.bmod_eq_of_le (by omega) (by omega)]
theorem own_85 (bs data : List Int32) (x0 x1 x2 x4 : Int32) (n k : Nat) (hn0 : 0 < n) (hn : n ≤ 8) (hb : bs.length ≤ 127) (hk : k ≤ 256) (hbs : 0 < bs.length → bs = own_z (bs.length - 1) ++ [x4.toInt8.toInt32])
    (hd : data = ((((([x0.toInt8.toInt32] ++ bs) ++ [x1.toInt8.toInt32, (XT.ushr x1 (8 : Int32)).toInt8.toInt32, (XT.ushr x1 (16 : Int32)).toInt8.toInt32, (XT.ushr x1 (24 : Int32)).toInt8.toInt32]) ++ own_z (own_pad (5 + bs.length) n)) ++ [x2.toInt8.toInt32, (XT.ushr x2 (8 : Int32)).toInt8.toInt32])) ++ own_z k) :
    f0_85 (Int32.ofNat (5 + bs.length + own_pad (5 + bs.length) n + 2)) data x0 x1 x2 x4 (Int32.ofNat bs.length) (Int32.ofNat n) = some 1 := by
  have hp : own_pad (5 + bs.length) n < n := Nat.mod_lt _ hn0
  have hpe := own_padEq (5 + bs.length) n hn0
  generalize hpad : own_pad (5 + bs.length) n = pad at *
  have hz : ¬ Int32.ofNat n = (0 : Int32) := fun q => absurd ((own_eq n 0 (by omega) (by decide)).mp q) (by omega)
  obtain ⟨r, hr⟩ : ∃ r, r = (((([x0.toInt8.toInt32] ++ bs) ++ [x1.toInt8.toInt32, (XT.ushr x1 (8 : Int32)).toInt8.toInt32, (XT.ushr x1 (16 : Int32)).toInt8.toInt32, (XT.ushr x1 (24 : Int32)).toInt8.toInt32]) ++ own_z pad) ++ [x2.toInt8.toInt32, (XT.ushr x2 (8 : Int32)).toInt8.toInt32]) := ⟨_, rfl⟩
  rw [← hr] at hd
  have l1 : ([x0.toInt8.toInt32] ++ bs).length = 1 + bs.length := by simp; omega
  have l2 : (([x0.toInt8.toInt32] ++ bs) ++ [x1.toInt8.toInt32, (XT.ushr x1 (8 : Int32)).toInt8.toInt32, (XT.ushr x1 (16 : Int32)).toInt8.toInt32, (XT.ushr x1 (24 : Int32)).toInt8.toInt32]).length = 5 + bs.length := by
    rw [List.length_append, l1]; simp; omega
  have l3 : ((([x0.toInt8.toInt32] ++ bs) ++ [x1.toInt8.toInt32, (XT.ushr x1 (8 : Int32)).toInt8.toInt32, (XT.ushr x1 (16 : Int32)).toInt8.toInt32, (XT.ushr x1 (24 : Int32)).toInt8.toInt32]) ++ own_z pad).length = 5 + bs.length + pad := by
    rw [List.length_append, l2, List.length_replicate]
  have hlen : r.length = 5 + bs.length + pad + 2 := by
    rw [hr, List.length_append, l3]; rfl
  have hB : f9_0 (Int32.ofNat (5 + bs.length + pad + 2)) data = some r := by
    unfold f9_0
    rw [hd, ← hlen, own_toB r k (by omega) hk, Option.bind_some]
  have e5 : (5 : Int32) + Int32.ofNat bs.length = Int32.ofNat (5 + bs.length) := own_add 5 bs.length
  have e6 : Int32.ofNat (5 + bs.length + n) - (1 : Int32) = Int32.ofNat (5 + bs.length + n - 1) := own_sub (5 + bs.length + n) 1 (by omega) (by omega)
  have e7 : Int32.ofNat ((5 + bs.length + n - 1) / n) * Int32.ofNat n = Int32.ofNat ((5 + bs.length + n - 1) / n * n) := (Int32.ofNat_mul _ _).symm
  have e8 : Int32.ofNat (5 + bs.length + pad) + (2 : Int32) = Int32.ofNat (5 + bs.length + pad + 2) := own_add _ 2
  have e9 : Int32.ofNat (5 + bs.length + pad) - Int32.ofNat (5 + bs.length) = Int32.ofNat pad := by
    rw [own_sub _ _ (by omega) (by omega)]
    congr 1; omega
  unfold f0_85 own_let
  dsimp only
  rw [if_neg hz, e5, own_add, e6, own_divn _ _ (by omega) hn0 (by omega), e7, ← hpe, e8, e9, hB, Option.bind_some, hlen, if_pos rfl]
  unfold f12_0
  rw [Option.bind_some, if_pos rfl]
  have R4 : ∀ i, r[5 + bs.length + pad + i]? = [x2.toInt8.toInt32, (XT.ushr x2 (8 : Int32)).toInt8.toInt32][i]? := fun i => by
    rw [hr]; exact own_r _ _ _ i (by rw [l3])
  have R3 : ∀ j, j < pad → r[5 + bs.length + j]? = some 0 := fun j hj => by
    rw [hr, List.getElem?_append_left (by rw [l3]; omega), own_r _ _ _ j (by rw [l2]), List.getElem?_replicate, if_pos hj]
  have R2 : ∀ i, i < 4 → r[1 + bs.length + i]? = [x1.toInt8.toInt32, (XT.ushr x1 (8 : Int32)).toInt8.toInt32, (XT.ushr x1 (16 : Int32)).toInt8.toInt32, (XT.ushr x1 (24 : Int32)).toInt8.toInt32][i]? := fun i hi => by
    rw [hr, List.getElem?_append_left (by rw [l3]; omega), List.getElem?_append_left (by rw [l2]; omega)]
    exact own_r _ _ _ i (by rw [l1])
  have R1 : ∀ i, i < bs.length → r[1 + i]? = bs[i]? := fun i hi => by
    rw [hr, List.getElem?_append_left (by rw [l3]; omega), List.getElem?_append_left (by rw [l2]; omega), List.getElem?_append_left (by rw [l1]; omega)]
    exact own_r _ _ _ i (by simp)
  have R0 : r[0]? = some x0.toInt8.toInt32 := by
    rw [hr, List.getElem?_append_left (by rw [l3]; omega), List.getElem?_append_left (by rw [l2]; omega), List.getElem?_append_left (by rw [l1]; omega)]
    rfl
  refine own_146 r data _ x0 x1 x2 x4 bs.length (5 + bs.length + pad) pad (by omega) (by omega) (by omega) hlen hB R0 ?_ ?_ ?_ ?_ ?_ ?_ R3 ?_ ?_
  · intro h
    have e := R1 (bs.length - 1) (by omega)
    rw [show 1 + (bs.length - 1) = bs.length by omega] at e
    rw [e]
    have q := hbs h
    generalize bs.length = m at *
    subst q
    exact own_r _ _ _ 0 (by simp)
  · intro h
    have q := hbs (by omega)
    have z : ∀ i, i < bs.length - 1 → bs[i]? = some 0 := fun i hi => by
      generalize bs.length = m at *
      subst q
      rw [List.getElem?_append_left (by simpa using hi), List.getElem?_replicate, if_pos hi]
    have e1 := R1 0 (by omega)
    have e2 := R1 (bs.length - 2) (by omega)
    rw [show 1 + (bs.length - 2) = bs.length - 1 by omega] at e2
    exact ⟨e1.trans (z 0 (by omega)), e2.trans (z _ (by omega))⟩
  · exact R2 0 (by decide)
  · have e := R2 1 (by decide)
    rw [show 1 + bs.length + 1 = 2 + bs.length by omega] at e
    exact e
  · have e := R2 2 (by decide)
    rw [show 1 + bs.length + 2 = 3 + bs.length by omega] at e
    exact e
  · have e := R2 3 (by decide)
    rw [show 1 + bs.length + 3 = 4 + bs.length by omega] at e
    exact e
  · exact R4 0
  · exact R4 1
theorem own_39 (bs : List Int32) (x0 x1 x2 x4 : Int32) (n : Nat) (hn0 : 0 < n) (hn : n ≤ 8) (hb : bs.length ≤ 127) (hbs : 0 < bs.length → bs = own_z (bs.length - 1) ++ [x4.toInt8.toInt32]) : f0_39 bs x0 x1 x2 x4 (Int32.ofNat bs.length) (Int32.ofNat n) = some 1 := by
  unfold f0_39 f1_0
  rw [Option.bind_some]
  obtain ⟨k1, h1, e1⟩ := own_u8 [] 64 x0 (Or.inl rfl) (fun _ => by decide) (by decide)
  rw [show f3_0 ((0 : Int32), List.replicate ((64 : Int32)).toNatClampNeg (0 : Int32)).2 ((0 : Int32), List.replicate ((64 : Int32)).toNatClampNeg (0 : Int32)).1 x0 = _ from e1, Option.bind_some]
  dsimp only
  have c1 : ([] ++ [x0.toInt8.toInt32] : List Int32) = [x0.toInt8.toInt32] := rfl
  rw [c1] at h1 ⊢
  have lc1 : [x0.toInt8.toInt32].length = 1 := rfl
  obtain ⟨k2, h2, e2⟩ := own_bytes bs [x0.toInt8.toInt32] k1 h1 (fun _ => by rw [lc1]; omega) (by rw [lc1]; omega)
  rw [e2, Option.bind_some]
  dsimp only
  have l1 : ([x0.toInt8.toInt32] ++ bs).length = 1 + bs.length := by simp; omega
  obtain ⟨k3, h3, e3⟩ := own_u32 ([x0.toInt8.toInt32] ++ bs) k2 x1 h2 (fun q => by omega) (by omega)
  rw [e3, Option.bind_some]
  dsimp only
  have l2 : (([x0.toInt8.toInt32] ++ bs) ++ [x1.toInt8.toInt32, (XT.ushr x1 (8 : Int32)).toInt8.toInt32, (XT.ushr x1 (16 : Int32)).toInt8.toInt32, (XT.ushr x1 (24 : Int32)).toInt8.toInt32]).length = ([x0.toInt8.toInt32] ++ bs).length + 4 := by
    rw [List.length_append]; rfl
  rw [← l2] at h3 ⊢
  obtain ⟨k4, h4, e4⟩ := own_align _ k3 n hn0 hn h3 (fun q => by omega) (by omega)
  rw [e4, Option.bind_some]
  dsimp only
  have l3 := List.length_append (as := ([x0.toInt8.toInt32] ++ bs) ++ [x1.toInt8.toInt32, (XT.ushr x1 (8 : Int32)).toInt8.toInt32, (XT.ushr x1 (16 : Int32)).toInt8.toInt32, (XT.ushr x1 (24 : Int32)).toInt8.toInt32]) (bs := own_z (own_pad (([x0.toInt8.toInt32] ++ bs) ++ [x1.toInt8.toInt32, (XT.ushr x1 (8 : Int32)).toInt8.toInt32, (XT.ushr x1 (16 : Int32)).toInt8.toInt32, (XT.ushr x1 (24 : Int32)).toInt8.toInt32]).length n))
  rw [List.length_replicate] at l3
  have hp : own_pad (([x0.toInt8.toInt32] ++ bs) ++ [x1.toInt8.toInt32, (XT.ushr x1 (8 : Int32)).toInt8.toInt32, (XT.ushr x1 (16 : Int32)).toInt8.toInt32, (XT.ushr x1 (24 : Int32)).toInt8.toInt32]).length n < n := Nat.mod_lt _ hn0
  rw [← l3] at h4 ⊢
  obtain ⟨k5, h5, e5⟩ := own_u16 _ k4 x2 h4 (fun q => by omega) (by omega)
  rw [e5, Option.bind_some]
  dsimp only
  rw [l3, l2, l1]
  have q := own_85 bs _ x0 x1 x2 x4 n k5 hn0 hn hb h5 hbs rfl
  rw [show 1 + bs.length + 4 = 5 + bs.length by omega]
  exact q
theorem plain0 (x0 x1 x2 x3 x4 : Int32) : f0_0 x0 x1 x2 x3 x4 = some 1 := by
  have q := c_mask x3 127 7 (by decide) (by decide +kernel)
  obtain ⟨m, hm, em⟩ : ∃ m : Nat, m ≤ 127 ∧ x3 &&& (127 : Int32) = Int32.ofNat m := by
    refine ⟨(x3 &&& (127 : Int32)).toInt.toNat, by omega, ?_⟩
    apply Int32.toInt_inj.mp
    rw [own_ti _ (by omega)]
    omega
  have q2 := c_mask (XT.ushr x4 (8 : Int32)) 7 3 (by decide) (by decide +kernel)
  obtain ⟨n, hn, en⟩ : ∃ n : Nat, n ≤ 7 ∧ (XT.ushr x4 (8 : Int32)) &&& (7 : Int32) = Int32.ofNat n := by
    refine ⟨((XT.ushr x4 (8 : Int32)) &&& (7 : Int32)).toInt.toNat, by omega, ?_⟩
    apply Int32.toInt_inj.mp
    rw [own_ti _ (by omega)]
    omega
  have e1 : (1 : Int32) + Int32.ofNat n = Int32.ofNat (1 + n) := own_add 1 n
  unfold f0_0 own_let
  dsimp only
  rw [em, en, e1, own_tn m (by omega)]
  rw [if_neg (show ¬ (Int32.ofNat m < 0 ∨ 127 < (Int32.ofNat m).toInt) by
    rintro (z | z)
    · exact own_nn m (by omega) z
    · rw [own_ti m (by omega)] at z; omega)]
  by_cases h : 0 < m
  · rw [if_pos (show (0 : Int32) < Int32.ofNat m from (own_lt 0 m (by decide) (by omega)).mpr h)]
    have a1 : Int32.ofNat m - (1 : Int32) = Int32.ofNat (m - 1) := own_sub m 1 (by omega) (by omega)
    obtain ⟨j, rfl⟩ : ∃ j, m = j + 1 := ⟨m - 1, by omega⟩
    rw [a1, own_b8, Nat.add_sub_cancel]
    have s := own_set1 (own_z j) 0 x4.toInt8.toInt32 (by rw [List.length_replicate]; omega)
    rw [List.length_replicate, show own_z j ++ own_z (0 + 1) = List.replicate (j + 1) (0 : Int32) from List.replicate_append_replicate, show own_z j ++ [x4.toInt8.toInt32] ++ own_z 0 = own_z j ++ [x4.toInt8.toInt32] from List.append_nil _] at s
    rw [s, Option.bind_some]
    have l : (own_z j ++ [x4.toInt8.toInt32]).length = j + 1 := by simp
    have f := own_39 (own_z j ++ [x4.toInt8.toInt32]) x0 x1 x2 x4 (1 + n) (by omega) (by omega) (by omega) (fun _ => by rw [l]; rfl)
    rw [l] at f
    exact f
  · have hm0 : m = 0 := by omega
    subst hm0
    rw [if_neg (show ¬ (0 : Int32) < Int32.ofNat 0 by decide)]
    exact own_39 [] x0 x1 x2 x4 (1 + n) (by omega) (by omega) (by decide) (fun z => absurd z (by decide))
theorem rm0 (l : Launch) (Z : State) (a0 : Array Value) (hw : ∀ d ∈ tables_1, d.before a0 Z = true) (ws : List Jvm.Cond) (x0 : Int32) (x1 : Int32) (x2 : Int32) (x3 : Int32) (x4 : Int32) (h0 : Heap) : own_Met l Z x code maxLocals ret ws room_1 #[(.int x0), (.int x1), (.int x2), (.int x3), (.int x4)] h0 (fun v h L => v = some (.int 1) ∧ Fr h0.size L) := by
  refine own_body pn0 ?_
  intro p e s m below meth c s₁ C X e0
  exact own_cast (ef0 m x0 x1 x2 x3 x4) (b0_0 hw C (Nat.le_refl h0.size) (1 : Int32) (fun v h L a b c => ⟨c, a⟩) X e0 (Fr.nil _) (Keep.refl h0 []) x0 x1 x2 x3 x4 (plain0 x0 x1 x2 x3 x4))
set_option maxRecDepth 65536 in
set_option maxHeartbeats 40000000 in
theorem comes_1 {Post : Tables → Env → Array Value → State → Outcome → State → Prop} (hpost : ∀ tb e args s v u, (limb_1_1.after args s (.returned v) u = true ∧ limb_1_2.after args s (.returned v) u = true ∧ True) → FrameEnd s (.returned v) u (Jvm.fieldLocs frame_1_writes args s ++ Jvm.arrayLocs frame_1_arrays args s ++ Jvm.staticLocs frame_1_statics s) 24 1792 → Post tb e args s (.returned v) u) :
    ArmFor flags0 classFile x code maxLocals ret World_1 tables_1 room_1 Calls_1 rest_1 Pre_1 Post := by
  intro l hfl _ _ p e ha hc hk s m args below hf hA hF happ hP
  obtain ⟨hcalls, hrest, hpre⟩ := hP
  obtain ⟨-, -, -, hnamed, -, -, -, hat⟩ := (Spec.applies_iff hf).mp happ
  obtain ⟨hg, hn⟩ := and_e (Cond.before_iff.mp (show (Jvm.Cond.and given_1 narrow_1).before args s = true from hpre))
  obtain ⟨hcnt, hg0⟩ := and_e hg
  obtain ⟨ha0, hg1⟩ := and_e hg0
  obtain ⟨ha1, hg2⟩ := and_e hg1
  obtain ⟨ha2, hg3⟩ := and_e hg2
  obtain ⟨ha3, hg4⟩ := and_e hg3
  have ha4 := hg4
  obtain ⟨w0, w1, w2, w3, w4, rfl⟩ : ∃ w0 w1 w2 w3 w4 : Value, args = #[w0, w1, w2, w3, w4] := by
    have hs : args.size = 5 := by simpa [Cond.value, given_1] using hcnt
    obtain ⟨L⟩ := args
    match L, hs with
    | [w0, w1, w2, w3, w4], _ => exact ⟨w0, w1, w2, w3, w4, rfl⟩
  have hw := fun d (hd : d ∈ tables_1) => atoms_spec (ws := Jvm.Cond.code x code maxLocals ret :: tables_1) hat d (List.mem_cons_of_mem _ hd)
  obtain ⟨i0, ei0⟩ := is_v ha0
  obtain rfl : w0 = (.int i0) := Option.some.inj ei0
  obtain ⟨i1, ei1⟩ := is_v ha1
  obtain rfl : w1 = (.int i1) := Option.some.inj ei1
  obtain ⟨i2, ei2⟩ := is_v ha2
  obtain rfl : w2 = (.int i2) := Option.some.inj ei2
  obtain ⟨i3, ei3⟩ := is_v ha3
  obtain rfl : w3 = (.int i3) := Option.some.inj ei3
  obtain ⟨i4, ei4⟩ := is_v ha4
  obtain rfl : w4 = (.int i4) := Option.some.inj ei4
  obtain ⟨n, o, h1, h2, h3, _, L, rfl, ⟨rfl, N⟩, hq⟩ := rm0 l s _ hw tables_1 i0 i1 i2 i3 i4 s.heap p e ha hc hk s m _ below hf ((Spec.applies_iff_loose hf).mp happ).1 ⟨rfl, State.Warmed39.refl s, rfl⟩ trivial
  refine ⟨n, _, h1, h2, h3, hpost _ _ _ _ _ _ ⟨Cond.after_iff.mpr rfl, Cond.after_iff.mpr (eq_i res_at (Term.int_eval (1)) rfl), trivial⟩ ⟨hq.1, hq.2.1, (hq.2.2.sift fun y hy => Or.inr (N y hy)).mono (by decide) (by decide)⟩⟩
theorem main_1_1 : Claimed_1_1 := comes_1 fun _ _ _ _ _ _ h hF => ⟨h.1, hF⟩
theorem main_1_2 : Claimed_1_2 := comes_1 fun _ _ _ _ _ _ h hF => ⟨h.2.1, hF⟩
end Jvm.Pilot.@@N@@
namespace Jvm.Pilot.@@N@@
open Jvm Jvm.ClassFile Sem Op Lib Jvm.Free Jvm.Stand Jvm.Pilot.@@N@@.Jvm.D
/-! MADE BY PROGRAM (witnessworld.py) out of the Statement's table words and the real class files: 12 classes; the members and pool entries that the words name. The judged class is class 1, her method 2. -/
namespace start1
open Jvm.ClassFile
def u (s : String) : CpInfo := .utf8 (stringToUtf16 s)
/-- a pool by its gaps: so many unusable entries, then the entry; so many at the end -/
def gap : Nat → List CpInfo → List CpInfo
  | 0, r => r
  | n + 1, r => .unusable :: gap n r
def poolList (es : List (Nat × CpInfo)) (last : Nat) : List CpInfo := es.foldr (fun e r => gap e.1 (e.2 :: r)) (gap last [])
def pool (es : List (Nat × CpInfo)) (last : Nat) : Array CpInfo := ⟨poolList es last⟩
def fileOf (pool : Array CpInfo) (this : Nat) (attrs : Array Attribute := #[]) (ms : Array MethodInfo := #[]) (fl : Nat := 33) (sup : Nat := 0) (ifs : Array Nat := #[]) (fds : Array FieldInfo := #[]) : ClassFile where
  minorVersion := 0
  majorVersion := 65
  constantPool := pool
  accessFlags := fl
  thisClass := this
  superClass := sup
  interfaces := ifs
  fields := fds
  methods := ms
  attributes := attrs
def plain (name : String) (sup : Option ClassId) : Class where
  name := name
  kind := .ordinary
  loader := none
  accessFlags := 33
  super := sup
  interfaces := #[]
  cf := none
  fields := #[]
  methods := #[]
  instanceTypes := #[]
  staticTypes := #[]
  resolved := #[]
  callSites := []
  init := .initialized
  statics := none
  mirror := none

def pool0 : Array CpInfo := pool [(5, u "<init>"), (0, u "()V"), (1, .class_ 10), (1, u "java/lang/Object"), (85, u "clone"), (0, u "()Ljava/lang/Object;")] 26

def k0c0 : Code := { maxStack := 0, maxLocals := 1, code := object_method_1_code, exceptionTable := #[], attributes := #[] }
def k0m0 : Method := { name := "<init>", desc := "()V", sig := { parameters := [], returnType := none }, accessFlags := 1, code := some k0c0 }
def k0m1 : Method := { name := "clone", desc := "()Ljava/lang/Object;", sig := { parameters := [], returnType := some (.object "java/lang/Object") }, accessFlags := 260, code := none }
/-- java/lang/Object -/
def k0 : Class := { plain "java/lang/Object" none with
  accessFlags := 33
  interfaces := #[]
  cf := some (fileOf pool0 8 #[] #[{ accessFlags := 1, nameIndex := 5, descriptorIndex := 6, attributes := #[] }, { accessFlags := 260, nameIndex := 96, descriptorIndex := 97, attributes := #[] }] 33 0 #[] #[])
  fields := #[]
  methods := #[k0m0, k0m1]
  instanceTypes := #[]
  staticTypes := #[]
  resolved := Array.replicate 124 none
  statics := none }

def pool1 : Array CpInfo := pool [(2, .class_ 4), (0, .nameAndType 5 6), (0, u "java/lang/Object"), (0, u "<init>"), (0, u "()V"), (0, .class_ 8), (0, u "com/example/objwire/objwire/ndr/NdrWriter"), (0, .methodref 7 3), (0, .methodref 7 11), (0, .nameAndType 12 13), (0, u "writeU8"), (0, u "(I)Lcom/example/objwire/objwire/ndr/NdrWriter;"), (0, .methodref 7 15), (0, .nameAndType 16 17), (0, u "writeBytes"), (0, u "([B)Lcom/example/objwire/objwire/ndr/NdrWriter;"), (0, .methodref 7 19), (0, .nameAndType 20 13), (0, u "writeU32"), (0, .methodref 7 22), (0, .nameAndType 23 13), (0, u "align"), (0, .methodref 7 25), (0, .nameAndType 26 13), (0, u "writeU16"), (0, .methodref 7 28), (0, .nameAndType 29 30), (0, u "toByteArray"), (0, u "()[B"), (0, .methodref 7 32), (0, .nameAndType 33 34), (0, u "size"), (0, u "()I"), (0, .methodref 36 37), (0, .class_ 38), (0, .nameAndType 39 40), (0, u "com/example/objwire/objwire/ndr/NdrWriterToByteArrayPinLaw"), (0, u "padZero"), (0, u "([BIII)Z"), (3, u "law"), (0, u "(IIIII)Z")] 4

def k1m0 : Method := { name := "<init>", desc := "()V", sig := { parameters := [], returnType := none }, accessFlags := 1, code := none }
def k1c1 : Code := { maxStack := 3, maxLocals := 4, code := method_2_code, exceptionTable := #[], attributes := #[] }
def k1m1 : Method := { name := "padZero", desc := "([BIII)Z", sig := { parameters := [(.array .byte), .int, .int, .int], returnType := some .boolean }, accessFlags := 10, code := some k1c1 }
def k1c2 : Code := { maxStack := 5, maxLocals := 16, code := code, exceptionTable := #[], attributes := #[] }
def k1m2 : Method := { name := "law", desc := "(IIIII)Z", sig := { parameters := [.int, .int, .int, .int, .int], returnType := some .boolean }, accessFlags := 9, code := some k1c2 }
/-- com/example/objwire/objwire/ndr/NdrWriterToByteArrayPinLaw -/
def k1 : Class := { plain "com/example/objwire/objwire/ndr/NdrWriterToByteArrayPinLaw" (some 0) with
  accessFlags := 49
  interfaces := #[]
  cf := some (fileOf pool1 36 #[] #[{ accessFlags := 1, nameIndex := 5, descriptorIndex := 6, attributes := #[] }, { accessFlags := 10, nameIndex := 39, descriptorIndex := 40, attributes := #[] }, { accessFlags := 9, nameIndex := 44, descriptorIndex := 45, attributes := #[] }] 49 2 #[] #[])
  fields := #[]
  methods := #[k1m0, k1m1, k1m2]
  instanceTypes := #[]
  staticTypes := #[]
  resolved := Array.replicate 50 none
  statics := none }

def pool2 : Array CpInfo := pool [(1, .methodref 2 3), (0, .class_ 4), (0, .nameAndType 5 6), (0, u "java/lang/Object"), (0, u "<init>"), (0, u "()V"), (0, .fieldref 8 9), (0, .class_ 10), (0, .nameAndType 11 12), (0, u "com/example/objwire/objwire/ndr/NdrWriter"), (0, u "data"), (0, u "[B"), (0, .fieldref 8 14), (0, .nameAndType 15 16), (0, u "size"), (0, u "I"), (0, .methodref 8 18), (0, .nameAndType 19 20), (0, u "ensure"), (0, u "(I)V"), (2, u "writeU32"), (0, u "(I)Lcom/example/objwire/objwire/ndr/NdrWriter;"), (9, u "writeU16"), (5, u "writeU8"), (0, .methodref 42 43), (0, .class_ 44), (0, .nameAndType 45 46), (0, u "java/lang/System"), (0, u "arraycopy"), (0, u "(Ljava/lang/Object;ILjava/lang/Object;II)V"), (0, .methodref 48 49), (0, .class_ 50), (0, .nameAndType 51 52), (0, u "java/util/Arrays"), (0, u "copyOf"), (0, u "([BI)[B"), (0, .methodref 54 55), (0, .class_ 56), (0, .nameAndType 57 58), (0, u "java/lang/Math"), (0, u "max"), (0, u "(II)I"), (0, u "REFERENT_ID"), (3, u "()I"), (7, u "writeBytes"), (0, u "([B)Lcom/example/objwire/objwire/ndr/NdrWriter;"), (0, u "align"), (0, u "toByteArray"), (0, u "()[B")] 2

def k2c0 : Code := { maxStack := 2, maxLocals := 1, code := prog_55_method_1_code, exceptionTable := #[], attributes := #[] }
def k2m0 : Method := { name := "<init>", desc := "()V", sig := { parameters := [], returnType := none }, accessFlags := 1, code := some k2c0 }
def k2c1 : Code := { maxStack := 1, maxLocals := 1, code := prog_55_method_2_code, exceptionTable := #[], attributes := #[] }
def k2m1 : Method := { name := "size", desc := "()I", sig := { parameters := [], returnType := some .int }, accessFlags := 1, code := some k2c1 }
def k2c2 : Code := { maxStack := 5, maxLocals := 2, code := prog_55_method_3_code, exceptionTable := #[], attributes := #[] }
def k2m2 : Method := { name := "writeU8", desc := "(I)Lcom/example/objwire/objwire/ndr/NdrWriter;", sig := { parameters := [.int], returnType := some (.object "com/example/objwire/objwire/ndr/NdrWriter") }, accessFlags := 1, code := some k2c2 }
def k2c3 : Code := { maxStack := 5, maxLocals := 2, code := prog_55_method_4_code, exceptionTable := #[], attributes := #[] }
def k2m3 : Method := { name := "writeU16", desc := "(I)Lcom/example/objwire/objwire/ndr/NdrWriter;", sig := { parameters := [.int], returnType := some (.object "com/example/objwire/objwire/ndr/NdrWriter") }, accessFlags := 1, code := some k2c3 }
def k2c4 : Code := { maxStack := 5, maxLocals := 3, code := prog_55_method_5_code, exceptionTable := #[], attributes := #[] }
def k2m4 : Method := { name := "writeU32", desc := "(I)Lcom/example/objwire/objwire/ndr/NdrWriter;", sig := { parameters := [.int], returnType := some (.object "com/example/objwire/objwire/ndr/NdrWriter") }, accessFlags := 1, code := some k2c4 }
def k2c5 : Code := { maxStack := 5, maxLocals := 2, code := prog_55_method_9_code, exceptionTable := #[], attributes := #[] }
def k2m5 : Method := { name := "writeBytes", desc := "([B)Lcom/example/objwire/objwire/ndr/NdrWriter;", sig := { parameters := [(.array .byte)], returnType := some (.object "com/example/objwire/objwire/ndr/NdrWriter") }, accessFlags := 1, code := some k2c5 }
def k2c6 : Code := { maxStack := 3, maxLocals := 3, code := prog_55_method_10_code, exceptionTable := #[], attributes := #[] }
def k2m6 : Method := { name := "align", desc := "(I)Lcom/example/objwire/objwire/ndr/NdrWriter;", sig := { parameters := [.int], returnType := some (.object "com/example/objwire/objwire/ndr/NdrWriter") }, accessFlags := 1, code := some k2c6 }
def k2c7 : Code := { maxStack := 2, maxLocals := 1, code := prog_55_method_11_code, exceptionTable := #[], attributes := #[] }
def k2m7 : Method := { name := "toByteArray", desc := "()[B", sig := { parameters := [], returnType := some (.array .byte) }, accessFlags := 1, code := some k2c7 }
def k2c8 : Code := { maxStack := 5, maxLocals := 2, code := prog_55_method_12_code, exceptionTable := #[], attributes := #[] }
def k2m8 : Method := { name := "ensure", desc := "(I)V", sig := { parameters := [.int], returnType := none }, accessFlags := 2, code := some k2c8 }
/-- com/example/objwire/objwire/ndr/NdrWriter -/
def k2 : Class := { plain "com/example/objwire/objwire/ndr/NdrWriter" (some 0) with
  accessFlags := 49
  interfaces := #[]
  cf := some (fileOf pool2 8 #[] #[{ accessFlags := 1, nameIndex := 5, descriptorIndex := 6, attributes := #[] }, { accessFlags := 1, nameIndex := 15, descriptorIndex := 63, attributes := #[] }, { accessFlags := 1, nameIndex := 40, descriptorIndex := 24, attributes := #[] }, { accessFlags := 1, nameIndex := 34, descriptorIndex := 24, attributes := #[] }, { accessFlags := 1, nameIndex := 23, descriptorIndex := 24, attributes := #[] }, { accessFlags := 1, nameIndex := 71, descriptorIndex := 72, attributes := #[] }, { accessFlags := 1, nameIndex := 73, descriptorIndex := 24, attributes := #[] }, { accessFlags := 1, nameIndex := 74, descriptorIndex := 75, attributes := #[] }, { accessFlags := 2, nameIndex := 19, descriptorIndex := 20, attributes := #[] }] 49 2 #[] #[{ accessFlags := 26, nameIndex := 59, descriptorIndex := 16, attributes := #[] }, { accessFlags := 2, nameIndex := 11, descriptorIndex := 12, attributes := #[] }, { accessFlags := 2, nameIndex := 15, descriptorIndex := 16, attributes := #[] }])
  fields := #[{ name := "REFERENT_ID", type := .int, accessFlags := 26, slot := 0, constantValue := 0 }, { name := "data", type := (.array .byte), accessFlags := 2, slot := 0, constantValue := 0 }, { name := "size", type := .int, accessFlags := 2, slot := 1, constantValue := 0 }]
  methods := #[k2m0, k2m1, k2m2, k2m3, k2m4, k2m5, k2m6, k2m7, k2m8]
  instanceTypes := #[(.array .byte), .int]
  staticTypes := #[.int]
  resolved := Array.replicate 78 none
  statics := none }

def pool3 : Array CpInfo := pool [(2, .class_ 4), (1, u "java/lang/Object"), (0, u "<init>"), (0, u "()V"), (1, .class_ 10), (1, u "java/lang/System"), (0, u "allowSecurityManager"), (0, u "I"), (16, u "cons"), (0, u "Ljava/io/Console;"), (77, .class_ 110), (1, u "java/lang/System$CallersHolder"), (43, u "initialErrStream"), (0, u "Ljava/io/PrintStream;"), (19, u "security"), (0, u "Ljava/lang/SecurityManager;"), (31, .class_ 209), (0, u "java/lang/System$1"), (7, u "props"), (0, u "Ljava/util/Properties;"), (2, u "lineSeparator"), (0, u "Ljava/lang/String;"), (96, .class_ 321), (1, u "java/lang/System$LoggerFinder"), (5, .class_ 328), (0, u "java/lang/System$Logger"), (67, u "err"), (2, u "out"), (91, u "notSupportedJnuEncoding"), (15, u "in"), (17, u "initialIn"), (0, u "Ljava/io/InputStream;"), (35, u "bootLayer"), (0, u "Ljava/lang/ModuleLayer;"), (99, .class_ 664), (0, u "java/lang/System$2"), (9, u "NEVER"), (2, u "MAYBE"), (49, u "arraycopy"), (0, u "(Ljava/lang/Object;ILjava/lang/Object;II)V"), (72, .class_ 802), (0, u "java/lang/System$Logger$Level")] 31

def k3m0 : Method := { name := "<init>", desc := "()V", sig := { parameters := [], returnType := none }, accessFlags := 2, code := none }
def k3m1 : Method := { name := "arraycopy", desc := "(Ljava/lang/Object;ILjava/lang/Object;II)V", sig := { parameters := [(.object "java/lang/Object"), .int, (.object "java/lang/Object"), .int, .int], returnType := none }, accessFlags := 265, code := none }
/-- java/lang/System -/
def k3 : Class := { plain "java/lang/System" (some 0) with
  accessFlags := 49
  interfaces := #[]
  cf := some (fileOf pool3 8 #[.nestMembers #[319, 327, 801, 108, 663, 208]] #[{ accessFlags := 2, nameIndex := 5, descriptorIndex := 6, attributes := #[] }, { accessFlags := 265, nameIndex := 727, descriptorIndex := 728, attributes := #[] }] 49 2 #[] #[{ accessFlags := 25, nameIndex := 507, descriptorIndex := 526, attributes := #[] }, { accessFlags := 25, nameIndex := 399, descriptorIndex := 155, attributes := #[] }, { accessFlags := 25, nameIndex := 396, descriptorIndex := 155, attributes := #[] }, { accessFlags := 10, nameIndex := 525, descriptorIndex := 526, attributes := #[] }, { accessFlags := 26, nameIndex := 674, descriptorIndex := 12, attributes := #[] }, { accessFlags := 26, nameIndex := 677, descriptorIndex := 12, attributes := #[] }, { accessFlags := 10, nameIndex := 11, descriptorIndex := 12, attributes := #[] }, { accessFlags := 74, nameIndex := 175, descriptorIndex := 176, attributes := #[] }, { accessFlags := 10, nameIndex := 491, descriptorIndex := 222, attributes := #[] }, { accessFlags := 74, nameIndex := 29, descriptorIndex := 30, attributes := #[] }, { accessFlags := 74, nameIndex := 154, descriptorIndex := 155, attributes := #[] }, { accessFlags := 10, nameIndex := 217, descriptorIndex := 218, attributes := #[] }, { accessFlags := 10, nameIndex := 221, descriptorIndex := 222, attributes := #[] }, { accessFlags := 8, nameIndex := 562, descriptorIndex := 563, attributes := #[] }])
  fields := #[{ name := "in", type := (.object "java/io/InputStream"), accessFlags := 25, slot := 0, constantValue := 0 }, { name := "out", type := (.object "java/io/PrintStream"), accessFlags := 25, slot := 1, constantValue := 0 }, { name := "err", type := (.object "java/io/PrintStream"), accessFlags := 25, slot := 2, constantValue := 0 }, { name := "initialIn", type := (.object "java/io/InputStream"), accessFlags := 10, slot := 3, constantValue := 0 }, { name := "NEVER", type := .int, accessFlags := 26, slot := 4, constantValue := 0 }, { name := "MAYBE", type := .int, accessFlags := 26, slot := 5, constantValue := 0 }, { name := "allowSecurityManager", type := .int, accessFlags := 10, slot := 6, constantValue := 0 }, { name := "security", type := (.object "java/lang/SecurityManager"), accessFlags := 74, slot := 7, constantValue := 0 }, { name := "notSupportedJnuEncoding", type := (.object "java/lang/String"), accessFlags := 10, slot := 8, constantValue := 0 }, { name := "cons", type := (.object "java/io/Console"), accessFlags := 74, slot := 9, constantValue := 0 }, { name := "initialErrStream", type := (.object "java/io/PrintStream"), accessFlags := 74, slot := 10, constantValue := 0 }, { name := "props", type := (.object "java/util/Properties"), accessFlags := 10, slot := 11, constantValue := 0 }, { name := "lineSeparator", type := (.object "java/lang/String"), accessFlags := 10, slot := 12, constantValue := 0 }, { name := "bootLayer", type := (.object "java/lang/ModuleLayer"), accessFlags := 8, slot := 13, constantValue := 0 }]
  methods := #[k3m0, k3m1]
  instanceTypes := #[]
  staticTypes := #[(.object "java/io/InputStream"), (.object "java/io/PrintStream"), (.object "java/io/PrintStream"), (.object "java/io/InputStream"), .int, .int, .int, (.object "java/lang/SecurityManager"), (.object "java/lang/String"), (.object "java/io/Console"), (.object "java/io/PrintStream"), (.object "java/util/Properties"), (.object "java/lang/String"), (.object "java/lang/ModuleLayer")]
  resolved := Array.replicate 834 none
  statics := none }

def pool4 : Array CpInfo := pool [(2, .class_ 4), (1, u "java/lang/Object"), (0, u "<init>"), (0, u "()V"), (7, .class_ 16), (1, u "java/util/Arrays"), (57, .class_ 76), (1, u "java/util/Arrays$NaturalOrder"), (32, u "()Ljava/lang/Object;"), (3, .class_ 115), (1, u "java/util/Arrays$LegacyMergeSort"), (1, u "Z"), (10, .nameAndType 129 109), (0, u "clone"), (20, .methodref 151 152), (0, .class_ 153), (0, .nameAndType 154 155), (0, u "java/lang/System"), (0, u "arraycopy"), (0, u "(Ljava/lang/Object;ILjava/lang/Object;II)V"), (146, u "copyOf"), (1, .methodref 305 306), (0, .class_ 307), (0, .nameAndType 308 309), (0, u "java/lang/Math"), (0, u "min"), (0, u "(II)I"), (0, .methodref 311 128), (0, .class_ 312), (0, u "[B"), (62, .class_ 376), (0, u "java/util/Arrays$ArrayList"), (68, u "$assertionsDisabled"), (269, u "MIN_ARRAY_SORT_GRAN"), (0, u "I"), (2, u "INSERTIONSORT_THRESHOLD"), (149, u "([BI)[B"), (105, .class_ 976), (0, u "java/util/Arrays$ArrayItr")] 52

def k4m0 : Method := { name := "<init>", desc := "()V", sig := { parameters := [], returnType := none }, accessFlags := 2, code := none }
def k4c1 : Code := { maxStack := 6, maxLocals := 3, code := jdk_65_method_121_code, exceptionTable := #[], attributes := #[] }
def k4m1 : Method := { name := "copyOf", desc := "([BI)[B", sig := { parameters := [(.array .byte), .int], returnType := some (.array .byte) }, accessFlags := 9, code := some k4c1 }
/-- java/util/Arrays -/
def k4 : Class := { plain "java/util/Arrays" (some 0) with
  accessFlags := 49
  interfaces := #[]
  cf := some (fileOf pool4 14 #[.nestMembers #[975, 375, 113, 74]] #[{ accessFlags := 2, nameIndex := 5, descriptorIndex := 6, attributes := #[] }, { accessFlags := 9, nameIndex := 302, descriptorIndex := 869, attributes := #[] }] 49 2 #[] #[{ accessFlags := 26, nameIndex := 715, descriptorIndex := 716, attributes := #[] }, { accessFlags := 26, nameIndex := 719, descriptorIndex := 716, attributes := #[] }, { accessFlags := 4120, nameIndex := 445, descriptorIndex := 117, attributes := #[] }])
  fields := #[{ name := "MIN_ARRAY_SORT_GRAN", type := .int, accessFlags := 26, slot := 0, constantValue := 0 }, { name := "INSERTIONSORT_THRESHOLD", type := .int, accessFlags := 26, slot := 1, constantValue := 0 }, { name := "$assertionsDisabled", type := .boolean, accessFlags := 4120, slot := 2, constantValue := 0 }]
  methods := #[k4m0, k4m1]
  instanceTypes := #[]
  staticTypes := #[.int, .int, .boolean]
  resolved := Array.replicate 1029 none
  statics := none }

def pool5 : Array CpInfo := pool [(1, .class_ 2), (0, u "java/lang/Math"), (1, .class_ 6), (1, u "java/lang/Object"), (0, u "<init>"), (0, u "()V"), (89, .class_ 100), (1, u "java/lang/Math$RandomNumberGeneratorHolder"), (71, u "negativeZeroFloatBits"), (0, u "J"), (2, u "negativeZeroDoubleBits"), (21, u "max"), (2, u "min"), (43, u "$assertionsDisabled"), (0, u "Z"), (88, u "(II)I"), (2, u "twoToTheDoubleScaleDown"), (0, u "D"), (4, u "twoToTheDoubleScaleUp"), (9, u "E"), (3, u "PI"), (2, u "TAU"), (2, u "DEGREES_TO_RADIANS"), (0, u "RADIANS_TO_DEGREES")] 94

def k5m0 : Method := { name := "<init>", desc := "()V", sig := { parameters := [], returnType := none }, accessFlags := 2, code := none }
def k5c1 : Code := { maxStack := 2, maxLocals := 2, code := jdk_29_method_65_code, exceptionTable := #[], attributes := #[] }
def k5m1 : Method := { name := "max", desc := "(II)I", sig := { parameters := [.int, .int], returnType := some .int }, accessFlags := 9, code := some k5c1 }
def k5c2 : Code := { maxStack := 2, maxLocals := 2, code := jdk_29_method_69_code, exceptionTable := #[], attributes := #[] }
def k5m2 : Method := { name := "min", desc := "(II)I", sig := { parameters := [.int, .int], returnType := some .int }, accessFlags := 9, code := some k5c2 }
/-- java/lang/Math -/
def k5 : Class := { plain "java/lang/Math" (some 0) with
  accessFlags := 49
  interfaces := #[]
  cf := some (fileOf pool5 1 #[.nestMembers #[98]] #[{ accessFlags := 2, nameIndex := 7, descriptorIndex := 8, attributes := #[] }, { accessFlags := 9, nameIndex := 198, descriptorIndex := 335, attributes := #[] }, { accessFlags := 9, nameIndex := 201, descriptorIndex := 335, attributes := #[] }] 49 4 #[] #[{ accessFlags := 25, nameIndex := 354, descriptorIndex := 339, attributes := #[] }, { accessFlags := 25, nameIndex := 358, descriptorIndex := 339, attributes := #[] }, { accessFlags := 25, nameIndex := 361, descriptorIndex := 339, attributes := #[] }, { accessFlags := 26, nameIndex := 364, descriptorIndex := 339, attributes := #[] }, { accessFlags := 26, nameIndex := 365, descriptorIndex := 339, attributes := #[] }, { accessFlags := 26, nameIndex := 172, descriptorIndex := 173, attributes := #[] }, { accessFlags := 26, nameIndex := 176, descriptorIndex := 173, attributes := #[] }, { accessFlags := 8, nameIndex := 344, descriptorIndex := 339, attributes := #[] }, { accessFlags := 8, nameIndex := 338, descriptorIndex := 339, attributes := #[] }, { accessFlags := 4120, nameIndex := 245, descriptorIndex := 246, attributes := #[] }])
  fields := #[{ name := "E", type := .double, accessFlags := 25, slot := 0, constantValue := 0 }, { name := "PI", type := .double, accessFlags := 25, slot := 1, constantValue := 0 }, { name := "TAU", type := .double, accessFlags := 25, slot := 2, constantValue := 0 }, { name := "DEGREES_TO_RADIANS", type := .double, accessFlags := 26, slot := 3, constantValue := 0 }, { name := "RADIANS_TO_DEGREES", type := .double, accessFlags := 26, slot := 4, constantValue := 0 }, { name := "negativeZeroFloatBits", type := .long, accessFlags := 26, slot := 5, constantValue := 0 }, { name := "negativeZeroDoubleBits", type := .long, accessFlags := 26, slot := 6, constantValue := 0 }, { name := "twoToTheDoubleScaleUp", type := .double, accessFlags := 8, slot := 7, constantValue := 0 }, { name := "twoToTheDoubleScaleDown", type := .double, accessFlags := 8, slot := 8, constantValue := 0 }, { name := "$assertionsDisabled", type := .boolean, accessFlags := 4120, slot := 9, constantValue := 0 }]
  methods := #[k5m0, k5m1, k5m2]
  instanceTypes := #[]
  staticTypes := #[.double, .double, .double, .double, .double, .long, .long, .double, .double, .boolean]
  resolved := Array.replicate 460 none
  statics := none }

def pool6 : Array CpInfo := pool [(1, .class_ 2), (0, u "java/lang/Cloneable"), (0, .class_ 4), (0, u "java/lang/Object")] 2

/-- java/lang/Cloneable -/
def k6 : Class := { plain "java/lang/Cloneable" (some 0) with
  accessFlags := 1537
  interfaces := #[]
  cf := some (fileOf pool6 1 #[] #[] 1537 3 #[] #[])
  fields := #[]
  methods := #[]
  instanceTypes := #[]
  staticTypes := #[]
  resolved := Array.replicate 7 none
  statics := none }

def pool7 : Array CpInfo := pool [(1, u "java/io/Serializable"), (0, .class_ 1), (0, u "java/lang/Object"), (0, .class_ 3)] 3

/-- java/io/Serializable -/
def k7 : Class := { plain "java/io/Serializable" (some 0) with
  accessFlags := 1537
  interfaces := #[]
  cf := some (fileOf pool7 2 #[] #[] 1537 4 #[] #[])
  fields := #[]
  methods := #[]
  instanceTypes := #[]
  staticTypes := #[]
  resolved := Array.replicate 8 none
  statics := none }

/-- the primitive byte -/
def k8 : Class := { plain "byte" none with kind := .primitive 'B', accessFlags := 0x411 }
/-- [B -/
def k9 : Class := { plain "[B" (some 0) with kind := .array 8 .byte, interfaces := #[6, 7], accessFlags := 1041 }

/-- the primitive int -/
def k10 : Class := { plain "int" none with kind := .primitive 'I', accessFlags := 0x411 }
/-- [I -/
def k11 : Class := { plain "[I" (some 0) with kind := .array 10 .int, interfaces := #[6, 7], accessFlags := 1041 }

def heap : Heap := #[]
def classes : Array Class := #[k0, k1, k2, k3, k4, k5, k6, k7, k8, k9, k10, k11]
def interned : List (Array UInt16 × Addr) := []
def slotsUsed : Nat := 0
def theMethod : MethodId := ⟨1, 2⟩
def args0 : Array Value := #[.int 5, .int 5, .int 5, .int 5, .int 5]
def aboutOver (below : List Frame) : State where
  vm := { classes := classes, interned := interned.toArray }
  heap := heap
  slotsUsed := slotsUsed
  threads := #[{ frames := .invoking theMethod args0 :: below }]
def below0 : List Frame := [.native { method := ⟨0, 0⟩, args := #[] }]
def about1 : State := aboutOver below0
def p0 : Program := .bare "" "" ""
def e0 : Env := launch0.env 0 0 0
theorem w_frames : about1.frames = Frame.invoking theMethod args0 :: below0 := rfl
set_option maxRecDepth 65536 in
theorem w_args : argsFit about1.vm theMethod args0 = true := by decide +kernel
set_option maxRecDepth 65536 in
theorem w_heap : heapFits about1 = true := by decide +kernel
set_option maxRecDepth 65536 in
theorem w_runnable : about1.curStatus? = some .runnable := by decide +kernel
set_option maxRecDepth 65536 in
theorem w_alone : about1.alone = true := by decide +kernel
set_option maxRecDepth 65536 in
theorem w_named : about1.methodNamed? x = some theMethod := by decide +kernel
set_option maxRecDepth 65536 in
theorem w_hears : about1.hears theMethod below0 = true := by decide +kernel
set_option maxRecDepth 65536 in
theorem w_ripe : about1.ripe theMethod args0 below0 = true := by decide +kernel
theorem w_running : about1.status = .running := rfl
set_option maxRecDepth 65536 in
theorem w_room : about1.hasRoom e0.platform room_1 = true :=
  launch0.hasRoom_least _ room_1 (by decide +kernel) (by decide +kernel) (by decide +kernel) (by decide +kernel) (by decide +kernel) (by decide +kernel)
theorem allAtoms_all (ts : List Jvm.Cond) (a : Array Jvm.Value) (st : Jvm.State) : (allAtoms ts).before a st = ts.all (fun c => c.before a st) := by
  induction ts with
  | nil => rfl
  | cons c t ih =>
    show (Jvm.Cond.and c (allAtoms t)).before a st = _
    rw [Jvm.Cond.before_and, ih, List.all_cons]
def words1 : List Jvm.Cond := Jvm.Cond.code x code maxLocals ret :: tables_1
/-- a 'code' word, met by the world's own term for the bytes: nothing is compared byte by byte -/
theorem code_word {y : MethodName} {bytes : ByteArray} {mx : Nat} {rt : Option FieldType} {a : Array Value} {s : State} {m : MethodId} {meth : Method} {c : Code} (h1 : s.methodNamed? y = some m) (h2 : s.vm.method? m = some meth) (h3 : meth.code = some c) (h4 : c.code = bytes)
    (h5 : (c.maxLocals == mx && c.exceptionTable.isEmpty && decide (c.maxStack ≤ mostOperands) && decide (meth.sig.returnType = rt) && !meth.locks && decide (parseMethodDescriptor y.desc = some meth.sig)) = true) : (Jvm.Cond.code y bytes mx rt).before a s = true := by
  simp only [Bool.and_eq_true, beq_iff_eq, Bool.not_eq_true', decide_eq_true_eq] at h5
  obtain ⟨⟨⟨⟨⟨g1, g2⟩, g3⟩, g4⟩, g5⟩, g6⟩ := h5
  simp [Cond.before, Cond.holds, Cond.value, h1, h2, h3, h4, g1, g2, g3, g4, g5, g6]
def isCode : Jvm.Cond → Bool
  | .code _ _ _ _ => true
  | _ => false
theorem all_split {L : List Jvm.Cond} {P : Jvm.Cond → Bool} (h1 : L.all (fun c => isCode c || P c) = true) (h2 : ∀ c ∈ L.filter isCode, P c = true) : L.all P = true := by
  refine List.all_eq_true.mpr fun c hc => ?_
  have h := List.all_eq_true.mp h1 c hc
  rcases Bool.eq_false_or_eq_true (isCode c) with hi | hi
  · exact h2 c (List.mem_filter.mpr ⟨hc, hi⟩)
  · simpa [hi] using h
set_option maxRecDepth 65536 in
theorem w_c0 : (Jvm.Cond.code x code maxLocals ret).before args0 about1 = true := code_word (m := ⟨1, 2⟩) (meth := k1m2) (c := k1c2) (by decide +kernel) rfl rfl rfl (by decide +kernel)
set_option maxRecDepth 65536 in
theorem w_c1 : (Jvm.Cond.code ({ cls := "com/example/objwire/objwire/ndr/NdrWriter", name := "<init>", desc := "()V" } : Jvm.MethodName) prog_55_method_1_code (1 : Nat) (Option.none : Option Jvm.ClassFile.FieldType)).before args0 about1 = true := code_word (m := ⟨2, 0⟩) (meth := k2m0) (c := k2c0) (by decide +kernel) rfl rfl rfl (by decide +kernel)
set_option maxRecDepth 65536 in
theorem w_c2 : (Jvm.Cond.code ({ cls := "java/lang/Object", name := "<init>", desc := "()V" } : Jvm.MethodName) object_method_1_code (1 : Nat) (Option.none : Option Jvm.ClassFile.FieldType)).before args0 about1 = true := code_word (m := ⟨0, 0⟩) (meth := k0m0) (c := k0c0) (by decide +kernel) rfl rfl rfl (by decide +kernel)
set_option maxRecDepth 65536 in
theorem w_c3 : (Jvm.Cond.code ({ cls := "com/example/objwire/objwire/ndr/NdrWriter", name := "writeU8", desc := "(I)Lcom/example/objwire/objwire/ndr/NdrWriter;" } : Jvm.MethodName) prog_55_method_3_code (2 : Nat) (Option.some (Jvm.ClassFile.FieldType.object "com/example/objwire/objwire/ndr/NdrWriter"))).before args0 about1 = true := code_word (m := ⟨2, 2⟩) (meth := k2m2) (c := k2c2) (by decide +kernel) rfl rfl rfl (by decide +kernel)
set_option maxRecDepth 65536 in
theorem w_c4 : (Jvm.Cond.code ({ cls := "com/example/objwire/objwire/ndr/NdrWriter", name := "ensure", desc := "(I)V" } : Jvm.MethodName) prog_55_method_12_code (2 : Nat) (Option.none : Option Jvm.ClassFile.FieldType)).before args0 about1 = true := code_word (m := ⟨2, 8⟩) (meth := k2m8) (c := k2c8) (by decide +kernel) rfl rfl rfl (by decide +kernel)
set_option maxRecDepth 65536 in
theorem w_c5 : (Jvm.Cond.code ({ cls := "com/example/objwire/objwire/ndr/NdrWriter", name := "writeBytes", desc := "([B)Lcom/example/objwire/objwire/ndr/NdrWriter;" } : Jvm.MethodName) prog_55_method_9_code (2 : Nat) (Option.some (Jvm.ClassFile.FieldType.object "com/example/objwire/objwire/ndr/NdrWriter"))).before args0 about1 = true := code_word (m := ⟨2, 5⟩) (meth := k2m5) (c := k2c5) (by decide +kernel) rfl rfl rfl (by decide +kernel)
set_option maxRecDepth 65536 in
theorem w_c6 : (Jvm.Cond.code ({ cls := "com/example/objwire/objwire/ndr/NdrWriter", name := "writeU32", desc := "(I)Lcom/example/objwire/objwire/ndr/NdrWriter;" } : Jvm.MethodName) prog_55_method_5_code (3 : Nat) (Option.some (Jvm.ClassFile.FieldType.object "com/example/objwire/objwire/ndr/NdrWriter"))).before args0 about1 = true := code_word (m := ⟨2, 4⟩) (meth := k2m4) (c := k2c4) (by decide +kernel) rfl rfl rfl (by decide +kernel)
set_option maxRecDepth 65536 in
theorem w_c7 : (Jvm.Cond.code ({ cls := "com/example/objwire/objwire/ndr/NdrWriter", name := "align", desc := "(I)Lcom/example/objwire/objwire/ndr/NdrWriter;" } : Jvm.MethodName) prog_55_method_10_code (3 : Nat) (Option.some (Jvm.ClassFile.FieldType.object "com/example/objwire/objwire/ndr/NdrWriter"))).before args0 about1 = true := code_word (m := ⟨2, 6⟩) (meth := k2m6) (c := k2c6) (by decide +kernel) rfl rfl rfl (by decide +kernel)
set_option maxRecDepth 65536 in
theorem w_c8 : (Jvm.Cond.code ({ cls := "com/example/objwire/objwire/ndr/NdrWriter", name := "writeU16", desc := "(I)Lcom/example/objwire/objwire/ndr/NdrWriter;" } : Jvm.MethodName) prog_55_method_4_code (2 : Nat) (Option.some (Jvm.ClassFile.FieldType.object "com/example/objwire/objwire/ndr/NdrWriter"))).before args0 about1 = true := code_word (m := ⟨2, 3⟩) (meth := k2m3) (c := k2c3) (by decide +kernel) rfl rfl rfl (by decide +kernel)
set_option maxRecDepth 65536 in
theorem w_c9 : (Jvm.Cond.code ({ cls := "com/example/objwire/objwire/ndr/NdrWriter", name := "toByteArray", desc := "()[B" } : Jvm.MethodName) prog_55_method_11_code (1 : Nat) (Option.some (Jvm.ClassFile.FieldType.array Jvm.ClassFile.FieldType.byte))).before args0 about1 = true := code_word (m := ⟨2, 7⟩) (meth := k2m7) (c := k2c7) (by decide +kernel) rfl rfl rfl (by decide +kernel)
set_option maxRecDepth 65536 in
theorem w_c10 : (Jvm.Cond.code ({ cls := "java/util/Arrays", name := "copyOf", desc := "([BI)[B" } : Jvm.MethodName) jdk_65_method_121_code (3 : Nat) (Option.some (Jvm.ClassFile.FieldType.array Jvm.ClassFile.FieldType.byte))).before args0 about1 = true := code_word (m := ⟨4, 1⟩) (meth := k4m1) (c := k4c1) (by decide +kernel) rfl rfl rfl (by decide +kernel)
set_option maxRecDepth 65536 in
theorem w_c11 : (Jvm.Cond.code ({ cls := "java/lang/Math", name := "min", desc := "(II)I" } : Jvm.MethodName) jdk_29_method_69_code (2 : Nat) (Option.some Jvm.ClassFile.FieldType.int)).before args0 about1 = true := code_word (m := ⟨5, 2⟩) (meth := k5m2) (c := k5c2) (by decide +kernel) rfl rfl rfl (by decide +kernel)
set_option maxRecDepth 65536 in
theorem w_c12 : (Jvm.Cond.code ({ cls := "com/example/objwire/objwire/ndr/NdrWriter", name := "size", desc := "()I" } : Jvm.MethodName) prog_55_method_2_code (1 : Nat) (Option.some Jvm.ClassFile.FieldType.int)).before args0 about1 = true := code_word (m := ⟨2, 1⟩) (meth := k2m1) (c := k2c1) (by decide +kernel) rfl rfl rfl (by decide +kernel)
set_option maxRecDepth 65536 in
theorem w_c13 : (Jvm.Cond.code ({ cls := "com/example/objwire/objwire/ndr/NdrWriterToByteArrayPinLaw", name := "padZero", desc := "([BIII)Z" } : Jvm.MethodName) method_2_code (4 : Nat) (Option.some Jvm.ClassFile.FieldType.boolean)).before args0 about1 = true := code_word (m := ⟨1, 1⟩) (meth := k1m1) (c := k1c1) (by decide +kernel) rfl rfl rfl (by decide +kernel)
set_option maxRecDepth 65536 in
theorem w_c14 : (Jvm.Cond.code ({ cls := "java/lang/Math", name := "max", desc := "(II)I" } : Jvm.MethodName) jdk_29_method_65_code (2 : Nat) (Option.some Jvm.ClassFile.FieldType.int)).before args0 about1 = true := code_word (m := ⟨5, 1⟩) (meth := k5m1) (c := k5c1) (by decide +kernel) rfl rfl rfl (by decide +kernel)
def codes1 : List Jvm.Cond := [Jvm.Cond.code x code maxLocals ret, Jvm.Cond.code ({ cls := "com/example/objwire/objwire/ndr/NdrWriter", name := "<init>", desc := "()V" } : Jvm.MethodName) prog_55_method_1_code (1 : Nat) (Option.none : Option Jvm.ClassFile.FieldType), Jvm.Cond.code ({ cls := "java/lang/Object", name := "<init>", desc := "()V" } : Jvm.MethodName) object_method_1_code (1 : Nat) (Option.none : Option Jvm.ClassFile.FieldType), Jvm.Cond.code ({ cls := "com/example/objwire/objwire/ndr/NdrWriter", name := "writeU8", desc := "(I)Lcom/example/objwire/objwire/ndr/NdrWriter;" } : Jvm.MethodName) prog_55_method_3_code (2 : Nat) (Option.some (Jvm.ClassFile.FieldType.object "com/example/objwire/objwire/ndr/NdrWriter")), Jvm.Cond.code ({ cls := "com/example/objwire/objwire/ndr/NdrWriter", name := "ensure", desc := "(I)V" } : Jvm.MethodName) prog_55_method_12_code (2 : Nat) (Option.none : Option Jvm.ClassFile.FieldType), Jvm.Cond.code ({ cls := "com/example/objwire/objwire/ndr/NdrWriter", name := "writeBytes", desc := "([B)Lcom/example/objwire/objwire/ndr/NdrWriter;" } : Jvm.MethodName) prog_55_method_9_code (2 : Nat) (Option.some (Jvm.ClassFile.FieldType.object "com/example/objwire/objwire/ndr/NdrWriter")), Jvm.Cond.code ({ cls := "com/example/objwire/objwire/ndr/NdrWriter", name := "writeU32", desc := "(I)Lcom/example/objwire/objwire/ndr/NdrWriter;" } : Jvm.MethodName) prog_55_method_5_code (3 : Nat) (Option.some (Jvm.ClassFile.FieldType.object "com/example/objwire/objwire/ndr/NdrWriter")), Jvm.Cond.code ({ cls := "com/example/objwire/objwire/ndr/NdrWriter", name := "align", desc := "(I)Lcom/example/objwire/objwire/ndr/NdrWriter;" } : Jvm.MethodName) prog_55_method_10_code (3 : Nat) (Option.some (Jvm.ClassFile.FieldType.object "com/example/objwire/objwire/ndr/NdrWriter")), Jvm.Cond.code ({ cls := "com/example/objwire/objwire/ndr/NdrWriter", name := "writeU16", desc := "(I)Lcom/example/objwire/objwire/ndr/NdrWriter;" } : Jvm.MethodName) prog_55_method_4_code (2 : Nat) (Option.some (Jvm.ClassFile.FieldType.object "com/example/objwire/objwire/ndr/NdrWriter")), Jvm.Cond.code ({ cls := "com/example/objwire/objwire/ndr/NdrWriter", name := "toByteArray", desc := "()[B" } : Jvm.MethodName) prog_55_method_11_code (1 : Nat) (Option.some (Jvm.ClassFile.FieldType.array Jvm.ClassFile.FieldType.byte)), Jvm.Cond.code ({ cls := "java/util/Arrays", name := "copyOf", desc := "([BI)[B" } : Jvm.MethodName) jdk_65_method_121_code (3 : Nat) (Option.some (Jvm.ClassFile.FieldType.array Jvm.ClassFile.FieldType.byte)), Jvm.Cond.code ({ cls := "java/lang/Math", name := "min", desc := "(II)I" } : Jvm.MethodName) jdk_29_method_69_code (2 : Nat) (Option.some Jvm.ClassFile.FieldType.int), Jvm.Cond.code ({ cls := "com/example/objwire/objwire/ndr/NdrWriter", name := "size", desc := "()I" } : Jvm.MethodName) prog_55_method_2_code (1 : Nat) (Option.some Jvm.ClassFile.FieldType.int), Jvm.Cond.code ({ cls := "com/example/objwire/objwire/ndr/NdrWriterToByteArrayPinLaw", name := "padZero", desc := "([BIII)Z" } : Jvm.MethodName) method_2_code (4 : Nat) (Option.some Jvm.ClassFile.FieldType.boolean), Jvm.Cond.code ({ cls := "java/lang/Math", name := "max", desc := "(II)I" } : Jvm.MethodName) jdk_29_method_65_code (2 : Nat) (Option.some Jvm.ClassFile.FieldType.int)]
set_option maxRecDepth 65536 in
theorem codes_eq : words1.filter isCode = codes1 := rfl
theorem w_codes : ∀ c ∈ words1.filter isCode, c.before args0 about1 = true := by
  rw [codes_eq]
  intro c hc
  simp only [codes1, List.mem_cons, List.not_mem_nil, or_false] at hc
  rcases hc with rfl | rfl | rfl | rfl | rfl | rfl | rfl | rfl | rfl | rfl | rfl | rfl | rfl | rfl | rfl
  · exact w_c0
  · exact w_c1
  · exact w_c2
  · exact w_c3
  · exact w_c4
  · exact w_c5
  · exact w_c6
  · exact w_c7
  · exact w_c8
  · exact w_c9
  · exact w_c10
  · exact w_c11
  · exact w_c12
  · exact w_c13
  · exact w_c14
set_option maxRecDepth 65536 in
theorem w_t1 : (words1.take 24).all (fun c => isCode c || c.before args0 about1) = true := by decide +kernel
set_option maxRecDepth 65536 in
theorem w_t2 : ((words1.drop 24).take 24).all (fun c => isCode c || c.before args0 about1) = true := by decide +kernel
set_option maxRecDepth 65536 in
theorem w_t3 : (((words1.drop 24).drop 24).take 24).all (fun c => isCode c || c.before args0 about1) = true := by decide +kernel
set_option maxRecDepth 65536 in
theorem w_t4 : (((words1.drop 24).drop 24).drop 24).all (fun c => isCode c || c.before args0 about1) = true := by decide +kernel
theorem w_tables : (allAtoms (Jvm.Cond.code x code maxLocals ret :: tables_1)).before args0 about1 = true := by
  rw [allAtoms_all]
  show words1.all (fun c => c.before args0 about1) = true
  refine all_split ?_ w_codes
  rw [← List.take_append_drop 24 words1, List.all_append, w_t1, ← List.take_append_drop 24 (words1.drop 24), List.all_append, w_t2, ← List.take_append_drop 24 ((words1.drop 24).drop 24), List.all_append, w_t3, w_t4]
  rfl
set_option maxRecDepth 65536 in
theorem w_case : (Jvm.Cond.and given_1 narrow_1).before args0 about1 = true := by decide +kernel
theorem w_applies : (headSpec (Jvm.Cond.code x code maxLocals ret :: tables_1) room_1).applies x e0.platform about1 = true :=
  (Spec.applies_iff w_frames).mpr ⟨w_running, w_runnable, w_alone, w_named, w_hears, w_ripe, w_room, w_tables⟩
theorem atStart : AtStart classFile x code maxLocals ret World_1 tables_1 room_1 Calls_1 rest_1 Pre_1 launch0 p0 e0 about1 theMethod args0 below0 :=
  ⟨lists_1, trivial, launch0.admits_env _ _ _, launch0.least_env, fairChoices_fair.cas, fairChoices_fair.clock, w_frames, w_args, w_heap, w_applies, trivial, trivial, w_case⟩
end start1
theorem witness_1 : WitnessClaimed_1 := ⟨start1.p0, start1.e0, start1.about1, start1.theMethod, start1.args0, start1.below0, start1.atStart⟩
end Jvm.Pilot.@@N@@
