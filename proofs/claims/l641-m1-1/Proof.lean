import JvmDerived
import JvmDerived.Pilot.@@N@@Statement
import JvmDerived.Pilot.@@N@@Code
set_option linter.unusedVariables false
set_option linter.unusedSimpArgs false
namespace Jvm.RoadKit
open Sem ClassFile Op Lib Jvm.Stand Jvm.Free Jvm.LawKit
section New
variable {p : Program} {l : Launch} {e : Env} {R : Room} {s : State} {m : MethodId} {args : Array Value} {below : List Frame} {meth : Method} {c : Code} {T : State} {locs : List Loc} {cells slots : Nat}
theorem retI (X : Stand p l e R s m args below meth c T locs cells slots) (hx : p.tables.exec = Jvm.exec) {pc : Nat} {Ls : Array Slot} {z : Int32} {rest : List Value} (hret : meth.sig.returnType = some .int) (hd : decode c.code pc = .ok (.ireturn, 1)) {fs : List Frame}
    (hl : ∀ (f : JFrame) (acts : List Action), f.method = m → f.locked = none → f.entered = [] → (doReturn e (T.setTop f) acts (some (.int z))).1 = T.setFrames fs) : Steps p.tables e below (T.setTop (mkF m pc Ls (.int z :: rest))) (T.setFrames fs) := by
  have hm' : T.vm.method? m = some meth := X.method'
  have hn : narrow .int (.int z) = .int z := rfl
  show Steps p.tables e below (T.setTop { method := m, pc := pc, locals := Ls, stack := _ :: rest, locked := none }) _
  jvm_step X.here [X.here.top, hx, hd, hm', hret, hn]
  first | (intro acts; rw [hl _ acts rfl rfl rfl]) | rw [hl _ _ rfl rfl rfl]
  exact Steps.refl _
end New
end Jvm.RoadKit
namespace Jvm.Pilot.@@N@@
open Jvm Jvm.ClassFile Sem Op Lib Jvm.Free Jvm.Stand Jvm.LawKit Jvm.RoadKit Bundle Jvm.Pilot.@@N@@.Jvm.D
/-- what is still to come: from the frame g at T the run comes to an end that Q takes -/
def own_WP (p : Program) (e : Env) (below : List Frame) (Q : Outcome → State → Prop) (T : State) (g : JFrame) : Prop :=
  ∃ s₂ o, Steps p.tables e below (T.setTop g) s₂ ∧ s₂.status = .running ∧ Ended s₂ below o ∧ Q o s₂
def own_Q (s : State) (P : Option Value → Heap → List Loc → Prop) (C S : Nat) (o : Outcome) (U : State) : Prop :=
  ∃ v L, o = .returned v ∧ P v U.heap L ∧ FrameEnd s o U L C S
def own_Ctx (p : Program) (s : State) (m : MethodId) (meth : Method) (c : Code) (Z : State) (y : MethodName) (bytes : ByteArray) (maxL : Nat) (rt : Option FieldType) : Prop :=
  p.tables.exec = Jvm.exec ∧ Z.Warmed39 s.vm ∧ c.code = bytes ∧ c.maxLocals = maxL ∧ s.vm.findClass y.cls = some m.cls ∧ meth.name = y.name ∧ meth.sig.returnType = rt ∧ meth.locks = false
def own_Met (l : Launch) (Z : State) (y : MethodName) (bytes : ByteArray) (maxL : Nat) (rt : Option FieldType) (ws : List Jvm.Cond) (rm : Room) (as' : Array Value) (h : Heap) (P : Option Value → Heap → List Loc → Prop) : Prop :=
  MetFree l y (head1 (Jvm.Cond.code y bytes maxL rt :: ws) rm) (fun a U => a = as' ∧ Z.Warmed39 U.vm ∧ U.heap = h) (fun _ _ _ _ _ => True) (fun _ U o U' => ∃ v L, o = .returned v ∧ P v U'.heap L ∧ FrameEnd U o U' L rm.cells rm.slots)
section Own
variable {p : Program} {l : Launch} {e : Env} {R : Room} {s : State} {m : MethodId} {args : Array Value} {below : List Frame} {meth : Method} {c : Code} {T T' : State} {locs : List Loc} {cells slots : Nat} {Z : State} {a0 : Array Value} {y : MethodName} {bytes : ByteArray} {maxL : Nat} {rt : Option FieldType} {P : Option Value → Heap → List Loc → Prop} {Q : Outcome → State → Prop}
theorem own_go {g g' : JFrame} (st : ∀ t, Steps p.tables e below (T'.setTop g') t → Steps p.tables e below (T.setTop g) t) (h : own_WP p e below Q T' g') : own_WP p e below Q T g := by
  obtain ⟨s₂, o, h1, h2⟩ := h
  exact ⟨s₂, o, st _ h1, h2⟩
theorem own_body {ws : List Jvm.Cond} {rm : Room} {as' : Array Value} {h : Heap} (hp : plainFor y = true)
    (body : ∀ p e s m below meth c s₁, own_Ctx p s m meth c Z y bytes maxL rt → Stand p l e rm s m as' below meth c s₁ [] 0 0 → s₁.heap = h → own_WP p e below (own_Q s P rm.cells rm.slots) s₁ (entryFrame m as' maxL)) :
    own_Met l Z y bytes maxL rt ws rm as' h P := by
  refine MetFree.of_bodySF hp hisR ?_
  intro p e s m args below meth c s₁ Bd hml0 hP hK
  obtain ⟨rfl, hZ, hh⟩ := hP
  exact body p e s m below meth c s₁ ⟨Bd.exec, hZ, Bd.bytes, hml0, findClass_of_methodNamed Bd.named, (name_of_methodNamed Bd.named Bd.method).1, Bd.returns, Bd.notSynchronized⟩ (Stand.of_body Bd) (by rw [← hh, Bd.state]; rfl)
theorem own_cast {g g' : JFrame} (q : g = g') (k : own_WP p e below Q T g') : own_WP p e below Q T g := q ▸ k
theorem own_retI (X : Stand p l e R s m args below meth c T locs cells slots) (C : own_Ctx p s m meth c Z y bytes maxL (some .int)) {pc : Nat} {Ls : Array Slot} {z : Int32} {rest : List Value} {CC SS : Nat}
    (hd : decode c.code pc = .ok (.ireturn, 1)) (hP : P (some (.int z)) T.heap locs) (hc : cells ≤ CC) (hs : slots ≤ SS) : own_WP p e below (own_Q s P CC SS) T (mkF m pc Ls (.int z :: rest)) := by
  obtain ⟨hx, -, -, -, -, -, hr, hlk⟩ := C
  obtain ⟨fs, hrr, hrun, hended, hW, hsame⟩ := X.leave (v := some (.int z)) (fun h => by rw [hr] at h; cases h) hlk
  exact ⟨_, _, retI X hx hr hd hrr, hrun, hended, _, _, rfl, hP, ⟨_, rfl⟩, hW, hsame.mono hc hs⟩
theorem own_retN {t : FieldType} (X : Stand p l e R s m args below meth c T locs cells slots) (C : own_Ctx p s m meth c Z y bytes maxL (some t)) (ht : t = .boolean ∨ t = .byte ∨ t = .char ∨ t = .short) {pc : Nat} {Ls : Array Slot} {z : Int32} {rest : List Value} {CC SS : Nat}
    (hd : decode c.code pc = .ok (.ireturn, 1)) (hP : P (some (.int (nar t z))) T.heap locs) (hc : cells ≤ CC) (hs : slots ≤ SS) : own_WP p e below (own_Q s P CC SS) T (mkF m pc Ls (.int z :: rest)) := by
  obtain ⟨hx, -, -, -, -, -, hr, hlk⟩ := C
  obtain ⟨fs, hrr, hrun, hended, hW, hsame⟩ := X.leave (v := some (.int (nar t z))) (fun h => by rw [hr] at h; cases h) hlk
  exact ⟨_, _, retN X hx hr ht hd hrr, hrun, hended, _, _, rfl, hP, ⟨_, rfl⟩, hW, hsame.mono hc hs⟩
theorem own_retL (X : Stand p l e R s m args below meth c T locs cells slots) (C : own_Ctx p s m meth c Z y bytes maxL (some .long)) {pc : Nat} {Ls : Array Slot} {z : Int64} {CC SS : Nat}
    (hd : decode c.code pc = .ok (.lreturn, 1)) (hP : P (some (.long z)) T.heap locs) (hc : cells ≤ CC) (hs : slots ≤ SS) : own_WP p e below (own_Q s P CC SS) T (mkF m pc Ls [.long z]) := by
  obtain ⟨hx, -, -, -, -, -, hr, hlk⟩ := C
  obtain ⟨fs, hrr, hrun, hended, hW, hsame⟩ := X.leave (v := some (.long z)) (fun h => by rw [hr] at h; cases h) hlk
  exact ⟨_, _, X.lreturnOut hx hr hd hrr, hrun, hended, _, _, rfl, hP, ⟨_, rfl⟩, hW, hsame.mono hc hs⟩
theorem own_retV (X : Stand p l e R s m args below meth c T locs cells slots) (C : own_Ctx p s m meth c Z y bytes maxL none) {pc : Nat} {Ls : Array Slot} {CC SS : Nat}
    (hd : decode c.code pc = .ok (.return_, 1)) (hP : P none T.heap locs) (hc : cells ≤ CC) (hs : slots ≤ SS) : own_WP p e below (own_Q s P CC SS) T (mkF m pc Ls []) := by
  obtain ⟨hx, -, -, -, -, -, hr, hlk⟩ := C
  obtain ⟨fs, hrr, hrun, hended, hW, hsame⟩ := X.leave (v := none) (fun _ => rfl) hlk
  exact ⟨_, _, X.returnOut hx hr hd hrr, hrun, hended, _, _, rfl, hP, ⟨_, rfl⟩, hW, hsame.mono hc hs⟩
theorem own_retA {t : FieldType} (X : Stand p l e R s m args below meth c T locs cells slots) (C : own_Ctx p s m meth c Z y bytes maxL (some t)) (ht : t.isReference = true) {pc : Nat} {Ls : Array Slot} {a : Addr} {CC SS : Nat}
    (hd : decode c.code pc = .ok (.areturn, 1)) (hP : P (some (.ref a)) T.heap locs) (hc : cells ≤ CC) (hs : slots ≤ SS) : own_WP p e below (own_Q s P CC SS) T (mkF m pc Ls [.ref a]) := by
  obtain ⟨hx, -, -, -, -, -, hr, hlk⟩ := C
  obtain ⟨fs, hrr, hrun, hended, hW, hsame⟩ := X.leave (v := some (.ref a)) (fun h => by rw [hr] at h; cases h) hlk
  exact ⟨_, _, X.areturnOut hx rfl hr ht hd hrr, hrun, hended, _, _, rfl, hP, ⟨_, rfl⟩, hW, hsame.mono hc hs⟩
/-- a static call by the callee's contract -/
theorem own_callS (X : Stand p l e R s m args below meth c T locs cells slots) (C : own_Ctx p s m meth c Z y bytes maxL rt) {idx : Nat} {y' : MethodName} {bytes' : ByteArray} {maxL' : Nat} {rt' : Option FieldType} {rm' : Room} {argsL rest : List Value} {h : Heap} {P' : Option Value → Heap → List Loc → Prop}
    (hM : own_Met l Z y' bytes' maxL' rt' [] rm' argsL.toArray h P') (w1 : (Cond.methodLink y.cls idx y').before a0 Z = true) (w2 : (Cond.static y').before a0 Z = true) (w3 : (Cond.initialized y'.cls).before a0 Z = true) (w4 : (Cond.code y' bytes' maxL' rt').before a0 Z = true)
    (hy : y'.cls ≠ "java/lang/invoke/MethodHandle" ∧ y'.cls ≠ "java/lang/invoke/VarHandle") (eT : T.heap = h) {W : Nat} {pc : Nat} {Ls : Array Slot} (hsz : Ls.size = maxL) (hlen : ∀ sig, parseMethodDescriptor y'.desc = some sig → argsL.length = sig.parameters.length)
    {stk : List Value} (hst : stk = argsL.reverse ++ rest) (hW : (rest.map fun v => v.category).sum ≤ W) (hd : decode c.code pc = .ok (.invokestatic idx, 3))
    (hf : rm'.frames + 1 ≤ R.frames) (hl : W + (maxL' + 11) + rm'.locals ≤ R.locals) (hc : cells + rm'.cells ≤ R.cells) (hs : slots + rm'.slots ≤ R.slots) :
    ∃ T' v L, Stand p l e R s m args below meth c T' (locs ++ L) (cells + rm'.cells) (slots + rm'.slots) ∧ P' v T'.heap L ∧ ∀ t, Steps p.tables e below (T'.setTop (mkF m (pc + 3) Ls (v.toList ++ rest))) t → Steps p.tables e below (T.setTop (mkF m pc Ls stk)) t := by
  obtain ⟨hx, hZ, hby, hml, hown, hnm, hr, hlk⟩ := C
  obtain ⟨v, _, ⟨T', L', k', n'⟩, -, X', ⟨L, hQ, hl', hk', hn'⟩, st⟩ := Jvm.LawKit.callS X hx (y := y') hown (mvT hZ w1) (mvT hZ w2) (mvT hZ w3) (mvT hZ w4) hy (backOf (W := W) hM hZ w4 w3 hf hl) (g := mkF m pc Ls stk) rfl (by rw [hml]; exact hsz) (argsL := argsL) (rest := rest) hlen hst (by show 2 * 0 + _ ≤ _; omega) hd (fun _ _ => ⟨rfl, eT, hc, hs⟩)
  dsimp only [Pt.U, Pt.locs, Pt.cells, Pt.slots] at X' hl' hk' hn' st hQ
  subst hl' hk' hn'
  exact ⟨T', v, L, X', hQ, st⟩
/-- a constructor by its contract -/
theorem own_callN (X : Stand p l e R s m args below meth c T locs cells slots) (C : own_Ctx p s m meth c Z y bytes maxL rt) {idx : Nat} {y' : MethodName} {bytes' : ByteArray} {maxL' : Nat} {rm' : Room} {a : Addr} {argsL rest : List Value} {h : Heap} {P' : Option Value → Heap → List Loc → Prop}
    (hM : own_Met l Z y' bytes' maxL' none [] rm' (.ref a :: argsL).toArray h P') (hyn : y'.name = "<init>") (w1 : (Cond.methodLink y.cls idx y').before a0 Z = true) (w2 : (Cond.instanceMethod y').before a0 Z = true) (w3 : (Cond.initialized y'.cls).before a0 Z = true) (w4 : (Cond.code y' bytes' maxL' none).before a0 Z = true)
    (hy : y'.cls ≠ "java/lang/invoke/MethodHandle" ∧ y'.cls ≠ "java/lang/invoke/VarHandle") (eT : T.heap = h) {W : Nat} {pc : Nat} {Ls : Array Slot} (hsz : Ls.size = maxL) (hlen : ∀ sig, parseMethodDescriptor y'.desc = some sig → argsL.length = sig.parameters.length)
    {stk : List Value} (hst : stk = argsL.reverse ++ .ref a :: rest) (hW : (rest.map fun v => v.category).sum ≤ W) (hd : decode c.code pc = .ok (.invokespecial idx, 3))
    (hf : rm'.frames + 1 ≤ R.frames) (hl : W + (maxL' + 11) + rm'.locals ≤ R.locals) (hc : cells + rm'.cells ≤ R.cells) (hs : slots + rm'.slots ≤ R.slots) :
    ∃ T' v L, Stand p l e R s m args below meth c T' (locs ++ L) (cells + rm'.cells) (slots + rm'.slots) ∧ P' v T'.heap L ∧ ∀ t, Steps p.tables e below (T'.setTop (mkF m (pc + 3) Ls (v.toList ++ rest))) t → Steps p.tables e below (T.setTop (mkF m pc Ls stk)) t := by
  obtain ⟨hx, hZ, hby, hml, hown, hnm, hr, hlk⟩ := C
  obtain ⟨v, _, ⟨T', L', k', n'⟩, -, X', ⟨L, hQ, hl', hk', hn'⟩, st⟩ := X.specialBack hx (y := y') hyn hown (mvT hZ w1) (mvT hZ w2) (mvT hZ w4) hy (backOf (W := W) hM hZ w4 w3 hf hl) (g := mkF m pc Ls stk) rfl (by rw [hml]; exact hsz) (Steps.refl _) (a := a) (argsL := argsL) (rest := rest) hlen hst (by show 2 * 0 + _ ≤ _; omega) hd (fun _ _ => ⟨rfl, eT, hc, hs⟩)
  dsimp only [Pt.U, Pt.locs, Pt.cells, Pt.slots] at X' hl' hk' hn' st hQ
  subst hl' hk' hn'
  exact ⟨T', v, L, X', hQ, fun t k => st.trans k⟩
/-- an instance method by the contract of the body that is selected (the class that declares it is the receiver's own) -/
theorem own_callV (X : Stand p l e R s m args below meth c T locs cells slots) (C : own_Ctx p s m meth c Z y bytes maxL rt) {idx : Nat} {y' : MethodName} {bytes' : ByteArray} {maxL' : Nat} {rt' : Option FieldType} {rm' : Room} {a : Addr} {argsL rest : List Value} {h : Heap} {P' : Option Value → Heap → List Loc → Prop}
    (hM : own_Met l Z y' bytes' maxL' rt' [] rm' (.ref a :: argsL).toArray h P') (w1 : (Cond.methodLink y.cls idx y').before a0 Z = true) (wd : (Cond.declares y').before a0 Z = true) (wsel : (Cond.selects y'.cls y' y').before a0 Z = true) (w2 : (Cond.instanceMethod y').before a0 Z = true) (w3 : (Cond.initialized y'.cls).before a0 Z = true) (w4 : (Cond.code y' bytes' maxL' rt').before a0 Z = true)
    (hy : y'.cls ≠ "java/lang/invoke/MethodHandle" ∧ y'.cls ≠ "java/lang/invoke/VarHandle") (eT : T.heap = h) (E : Exa Z h a y'.cls) {W : Nat} {pc : Nat} {Ls : Array Slot} (hsz : Ls.size = maxL) (hlen : ∀ sig, parseMethodDescriptor y'.desc = some sig → argsL.length = sig.parameters.length)
    {stk : List Value} (hst : stk = argsL.reverse ++ .ref a :: rest) (hW : (rest.map fun v => v.category).sum ≤ W) (hd : decode c.code pc = .ok (.invokevirtual idx, 3))
    (hf : rm'.frames + 1 ≤ R.frames) (hl : W + (maxL' + 11) + rm'.locals ≤ R.locals) (hc : cells + rm'.cells ≤ R.cells) (hs : slots + rm'.slots ≤ R.slots) :
    ∃ T' v L, Stand p l e R s m args below meth c T' (locs ++ L) (cells + rm'.cells) (slots + rm'.slots) ∧ P' v T'.heap L ∧ ∀ t, Steps p.tables e below (T'.setTop (mkF m (pc + 3) Ls (v.toList ++ rest))) t → Steps p.tables e below (T.setTop (mkF m pc Ls stk)) t := by
  obtain ⟨hx, hZ, hby, hml, hown, hnm, hr, hlk⟩ := C
  obtain ⟨cq, kq, qa, qb, qc⟩ := isOf hZ eT E
  obtain ⟨v, _, ⟨T', L', k', n'⟩, -, X', ⟨L, hQ, hl', hk', hn'⟩, st⟩ := X.virtualBack hx (y := y') (z := y') hown (mvT hZ w1) (mvT hZ wd) (notFace_of_selects (args := #[]) (mvT hZ wsel)) (mvT hZ wsel) (mvT hZ w2) hy (backOf (W := W) hM hZ w4 w3 hf hl) qa qc (g := mkF m pc Ls stk) rfl (by rw [hml]; exact hsz) (Steps.refl _) (argsL := argsL) (rest := rest) hlen hst (by show 2 * 0 + _ ≤ _; omega) hd (fun _ _ => ⟨rfl, eT, hc, hs⟩)
  dsimp only [Pt.U, Pt.locs, Pt.cells, Pt.slots] at X' hl' hk' hn' st hQ
  subst hl' hk' hn'
  exact ⟨T', v, L, X', hQ, fun t k => st.trans k⟩
end Own
end Jvm.Pilot.@@N@@
namespace Jvm.Pilot.@@N@@
open Jvm Jvm.ClassFile Sem Op Lib Jvm.Free Jvm.Stand Jvm.LawKit Jvm.RoadKit Bundle Jvm.Pilot.@@N@@.Jvm.D
/-- the array at b holds just vs -/
def own_A (Z : State) (h : Heap) (b : Addr) (ty : FieldType) (vs : List Value) : Prop := Exa Z h b ("[" ++ ty.toString) ∧ ∃ c : Cell, Arr Z h b c ty ∧ c.slots = vs.toArray ∧ vs.length < 2147483648 ∧ ∀ v ∈ vs, fits ty v = true
def own_AI (Z : State) (h : Heap) (b : Addr) (ty : FieldType) (vs : List Int32) : Prop := own_A Z h b ty (vs.map Value.int)
def own_AJ (Z : State) (h : Heap) (b : Addr) (ty : FieldType) (vs : List Int64) : Prop := own_A Z h b ty (vs.map Value.long)
def own_get {α : Type} (vs : List α) (j : Int32) : Option α := if j < 0 then none else vs[j.toNatClampNeg]?
def own_set {α : Type} (vs : List α) (j : Int32) (x : α) : Option (List α) := if j < 0 then none else if j.toNatClampNeg < vs.length then some (vs.set j.toNatClampNeg x) else none
theorem own_bind {α β : Type} {o : Option α} {f : α → Option β} {r : β} (h : o.bind f = some r) : ∃ v, o = some v ∧ f v = some r := by
  cases o with
  | none => cases h
  | some v => exact ⟨v, rfl, h⟩
def own_let {α β : Type} (a : α) (f : α → β) : β := f a
theorem own_letE {α β : Type} {a : α} {f : α → β} {r : β} (h : own_let a f = r) : f a = r := h
theorem own_ne {a b : Nat} (h : a < b ∨ b < a) : @Ne Addr a b := by
  intro e
  rcases h with h | h
  · exact Nat.lt_irrefl _ (e ▸ h)
  · exact Nat.lt_irrefl _ (e ▸ h)
theorem own_cap {n : Int32} {c : Int} {k : Nat} (hk : c = (k : Int)) (h : ¬ c < n.toInt) : n.toNatClampNeg ≤ k := by
  have q : n.toNatClampNeg = n.toInt.toNat := rfl
  rw [q]; omega
section Own
variable {p : Program} {l : Launch} {e : Env} {R : Room} {s : State} {m : MethodId} {args : Array Value} {below : List Frame} {meth : Method} {c : Code} {T T' : State} {locs : List Loc} {cells slots : Nat} {Z : State} {a0 : Array Value} {y : MethodName} {bytes : ByteArray} {maxL : Nat} {rt : Option FieldType} {h h' : Heap} {a b : Addr} {ty : FieldType}
theorem own_A.lt {vs : List Value} (F : own_A Z h b ty vs) : b < h.size := by obtain ⟨E, c, A, -⟩ := F; exact A.lt
theorem own_A.ext {vs : List Value} (F : own_A Z h b ty vs) (E : Ext h h') : own_A Z h' b ty vs := by obtain ⟨Q, c, A, r⟩ := F; exact ⟨Q.ext E, c, A.ext E, r⟩
theorem own_A.other {vs : List Value} {sl : Nat} {v : Value} (F : own_A Z h b ty vs) (W : Wr h h' a sl v) (q : b ≠ a) : own_A Z h' b ty vs := by obtain ⟨Q, c, A, r⟩ := F; exact ⟨Q.wr W, c, A.other W q, r⟩
theorem own_A.keep {vs : List Value} {ws : List Addr} (F : own_A Z h b ty vs) (K : Keep h h' ws) (q : b ∉ ws) : own_A Z h' b ty vs := by obtain ⟨Q, c, A, r⟩ := F; exact ⟨Q.keep K, c, ⟨K.2.1 b c A.1 q, A.2⟩, r⟩
theorem own_A.set {vs : List Value} {j : Nat} {v : Value} (F : own_A Z h b ty vs) (W : Wr h h' b j v) (hv : fits ty v = true) : own_A Z h' b ty (vs.set j v) := by
  obtain ⟨Q, c, A, r1, r2, r3⟩ := F
  refine ⟨Q.wr W, _, A.same W, ?_, by simpa using r2, ?_⟩
  · show c.slots.setIfInBounds j v = _
    rw [r1]; simp
  · intro u hu
    rcases List.mem_or_eq_of_mem_set hu with q | q
    · exact r3 u q
    · rw [q]; exact hv
theorem own_AI.lt {vs : List Int32} (F : own_AI Z h b ty vs) : b < h.size := own_A.lt F
theorem own_AI.ext {vs : List Int32} (F : own_AI Z h b ty vs) (E : Ext h h') : own_AI Z h' b ty vs := own_A.ext F E
theorem own_AI.other {vs : List Int32} {sl : Nat} {v : Value} (F : own_AI Z h b ty vs) (W : Wr h h' a sl v) (q : b ≠ a) : own_AI Z h' b ty vs := own_A.other F W q
theorem own_AI.keep {vs : List Int32} {ws : List Addr} (F : own_AI Z h b ty vs) (K : Keep h h' ws) (q : b ∉ ws) : own_AI Z h' b ty vs := own_A.keep F K q
theorem own_AJ.lt {vs : List Int64} (F : own_AJ Z h b ty vs) : b < h.size := own_A.lt F
theorem own_AJ.ext {vs : List Int64} (F : own_AJ Z h b ty vs) (E : Ext h h') : own_AJ Z h' b ty vs := own_A.ext F E
theorem own_AJ.other {vs : List Int64} {sl : Nat} {v : Value} (F : own_AJ Z h b ty vs) (W : Wr h h' a sl v) (q : b ≠ a) : own_AJ Z h' b ty vs := own_A.other F W q
theorem own_AJ.keep {vs : List Int64} {ws : List Addr} (F : own_AJ Z h b ty vs) (K : Keep h h' ws) (q : b ∉ ws) : own_AJ Z h' b ty vs := own_A.keep F K q
theorem own_A.place {α : Type} {f : α → Value} {vs : List α} {j : Int32} {v : α} (F : own_A Z h b ty (vs.map f)) (g : own_get vs j = some v) : ∃ c : Cell, Arr Z h b c ty ∧ ¬ (j < 0 ∨ c.slots.size ≤ j.toNatClampNeg) ∧ c.slots[j.toNatClampNeg]? = some (f v) := by
  obtain ⟨-, c, A, r1, r2, -⟩ := F
  unfold own_get at g
  split at g
  · cases g
  · rename_i hj
    obtain ⟨hlt, hv⟩ := List.getElem?_eq_some_iff.mp g
    refine ⟨c, A, ?_, ?_⟩
    · rintro (q | q)
      · exact hj q
      · rw [r1] at q; simp at q; omega
    · rw [r1]; simp [g]
theorem own_A.room {α : Type} {f : α → Value} {vs vs' : List α} {j : Int32} {v : α} (F : own_A Z h b ty (vs.map f)) (g : own_set vs j v = some vs') : ∃ c : Cell, Arr Z h b c ty ∧ ¬ (j < 0 ∨ c.slots.size ≤ j.toNatClampNeg) ∧ vs' = vs.set j.toNatClampNeg v := by
  obtain ⟨-, c, A, r1, r2, -⟩ := F
  unfold own_set at g
  split at g
  · cases g
  · rename_i hj
    split at g
    · rename_i hlt
      refine ⟨c, A, ?_, (Option.some.inj g).symm⟩
      rintro (q | q)
      · exact hj q
      · rw [r1] at q; simp at q; omega
    · cases g
theorem own_iaload (X : Stand p l e R s m args below meth c T locs cells slots) (C : own_Ctx p s m meth c Z y bytes maxL rt) (eT : T.heap = h) {vs : List Int32} (F : own_AI Z h b .int vs) {j v : Int32} (g : own_get vs j = some v) {pc : Nat} {Ls : Array Slot} {rest : List Value} (hd : decode c.code pc = .ok (.iaload, 1)) :
    ∀ t, Steps p.tables e below (T.setTop (mkF m (pc + 1) Ls (.int v :: rest))) t → Steps p.tables e below (T.setTop (mkF m pc Ls (.int j :: .ref b :: rest))) t := by
  obtain ⟨hx, hZ, -⟩ := C
  obtain ⟨cl, A, hin, hat⟩ := own_A.place F g
  intro t k
  exact X.iaload hx (j := j) (v := .int v) (by rw [eT]; exact A.1) (State.isArrayOf_alike hZ.alike A.2.1) A.2.2 hin hat (g := mkF m pc Ls (.int j :: .ref b :: rest)) rfl rfl hd t k
theorem own_baload (X : Stand p l e R s m args below meth c T locs cells slots) (C : own_Ctx p s m meth c Z y bytes maxL rt) (eT : T.heap = h) {vs : List Int32} (F : own_AI Z h b .byte vs) {j v : Int32} (g : own_get vs j = some v) {pc : Nat} {Ls : Array Slot} {rest : List Value} (hd : decode c.code pc = .ok (.baload, 1)) :
    ∀ t, Steps p.tables e below (T.setTop (mkF m (pc + 1) Ls (.int v :: rest))) t → Steps p.tables e below (T.setTop (mkF m pc Ls (.int j :: .ref b :: rest))) t := by
  obtain ⟨hx, hZ, -⟩ := C
  obtain ⟨cl, A, hin, hat⟩ := own_A.place F g
  intro t k
  exact X.baloadBytes hx (j := j) (v := .int v) (by rw [eT]; exact A.1) (State.isArrayOf_alike hZ.alike A.2.1) A.2.2 hin hat (g := mkF m pc Ls (.int j :: .ref b :: rest)) rfl rfl hd t k
theorem own_laload (X : Stand p l e R s m args below meth c T locs cells slots) (C : own_Ctx p s m meth c Z y bytes maxL rt) (eT : T.heap = h) {vs : List Int64} (F : own_AJ Z h b .long vs) {j : Int32} {v : Int64} (g : own_get vs j = some v) {pc : Nat} {Ls : Array Slot} {rest : List Value} (hd : decode c.code pc = .ok (.laload, 1)) :
    ∀ t, Steps p.tables e below (T.setTop (mkF m (pc + 1) Ls (.long v :: rest))) t → Steps p.tables e below (T.setTop (mkF m pc Ls (.int j :: .ref b :: rest))) t := by
  obtain ⟨hx, hZ, -⟩ := C
  obtain ⟨cl, A, hin, hat⟩ := own_A.place F g
  intro t k
  exact X.laload hx (j := j) (v := .long v) (by rw [eT]; exact A.1) (State.isArrayOf_alike hZ.alike A.2.1) A.2.2 hin hat (g := mkF m pc Ls (.int j :: .ref b :: rest)) rfl rfl hd t k
theorem own_len (X : Stand p l e R s m args below meth c T locs cells slots) (C : own_Ctx p s m meth c Z y bytes maxL rt) (eT : T.heap = h) {vs : List Value} (F : own_A Z h b ty vs) {pc : Nat} {Ls : Array Slot} {rest : List Value} (hd : decode c.code pc = .ok (.arraylength, 1)) :
    ∀ t, Steps p.tables e below (T.setTop (mkF m (pc + 1) Ls (.int (Int32.ofNat vs.length) :: rest))) t → Steps p.tables e below (T.setTop (mkF m pc Ls (.ref b :: rest))) t := by
  obtain ⟨hx, hZ, -⟩ := C
  obtain ⟨-, cl, A, r1, r2, -⟩ := F
  intro t k
  refine X.arraylength hx (by rw [eT]; exact A.1) (State.isArrayOf_alike hZ.alike A.2.1) (g := mkF m pc Ls (.ref b :: rest)) rfl rfl hd t ?_
  have q : cl.slots.size.toInt32 = Int32.ofNat vs.length := by
    rw [r1, List.size_toArray]
  rw [q]; exact k
theorem own_lenI (X : Stand p l e R s m args below meth c T locs cells slots) (C : own_Ctx p s m meth c Z y bytes maxL rt) (eT : T.heap = h) {vs : List Int32} (F : own_AI Z h b ty vs) {pc : Nat} {Ls : Array Slot} {rest : List Value} (hd : decode c.code pc = .ok (.arraylength, 1)) :
    ∀ t, Steps p.tables e below (T.setTop (mkF m (pc + 1) Ls (.int (Int32.ofNat vs.length) :: rest))) t → Steps p.tables e below (T.setTop (mkF m pc Ls (.ref b :: rest))) t := by
  have k := own_len X C eT F (Ls := Ls) (rest := rest) hd
  rwa [List.length_map] at k
theorem own_lenJ (X : Stand p l e R s m args below meth c T locs cells slots) (C : own_Ctx p s m meth c Z y bytes maxL rt) (eT : T.heap = h) {vs : List Int64} (F : own_AJ Z h b ty vs) {pc : Nat} {Ls : Array Slot} {rest : List Value} (hd : decode c.code pc = .ok (.arraylength, 1)) :
    ∀ t, Steps p.tables e below (T.setTop (mkF m (pc + 1) Ls (.int (Int32.ofNat vs.length) :: rest))) t → Steps p.tables e below (T.setTop (mkF m pc Ls (.ref b :: rest))) t := by
  have k := own_len X C eT F (Ls := Ls) (rest := rest) hd
  rwa [List.length_map] at k
theorem own_iastore (X : Stand p l e R s m args below meth c T locs cells slots) (C : own_Ctx p s m meth c Z y bytes maxL rt) (eT : T.heap = h) {vs vs' : List Int32} (F : own_AI Z h b .int vs) {j x : Int32} (g : own_set vs j x = some vs') {pc : Nat} {Ls : Array Slot} {rest : List Value} (hd : decode c.code pc = .ok (.iastore, 1)) :
    ∃ T' h', Stand p l e R s m args below meth c T' (locs ++ [⟨b, j.toNatClampNeg⟩]) cells slots ∧ T'.heap = h' ∧ Wr h h' b j.toNatClampNeg (.int x) ∧ own_AI Z h' b .int vs' ∧
      ∀ t, Steps p.tables e below (T'.setTop (mkF m (pc + 1) Ls rest)) t → Steps p.tables e below (T.setTop (mkF m pc Ls (.int x :: .int j :: .ref b :: rest))) t := by
  obtain ⟨hx, hZ, -⟩ := C
  obtain ⟨cl, A, hin, rfl⟩ := own_A.room F g
  obtain ⟨T', h', X', e', W, st⟩ := stI X hx hZ eT A (j := j) (x := x) hin (g := mkF m pc Ls (.int x :: .int j :: .ref b :: rest)) rfl rfl hd
  refine ⟨T', h', X', e', W, ?_, st⟩
  have k := own_A.set F W rfl
  unfold own_AI
  rwa [List.map_set]
theorem own_lastore (X : Stand p l e R s m args below meth c T locs cells slots) (C : own_Ctx p s m meth c Z y bytes maxL rt) (eT : T.heap = h) {vs vs' : List Int64} (F : own_AJ Z h b .long vs) {j : Int32} {x : Int64} (g : own_set vs j x = some vs') {pc : Nat} {Ls : Array Slot} {rest : List Value} (hd : decode c.code pc = .ok (.lastore, 1)) :
    ∃ T' h', Stand p l e R s m args below meth c T' (locs ++ [⟨b, j.toNatClampNeg⟩]) cells slots ∧ T'.heap = h' ∧ Wr h h' b j.toNatClampNeg (.long x) ∧ own_AJ Z h' b .long vs' ∧
      ∀ t, Steps p.tables e below (T'.setTop (mkF m (pc + 1) Ls rest)) t → Steps p.tables e below (T.setTop (mkF m pc Ls (.long x :: .int j :: .ref b :: rest))) t := by
  obtain ⟨hx, hZ, -⟩ := C
  obtain ⟨cl, A, hin, rfl⟩ := own_A.room F g
  obtain ⟨T', h', X', e', W, st⟩ := stJ X hx hZ eT A (j := j) (x := x) hin (g := mkF m pc Ls (.long x :: .int j :: .ref b :: rest)) rfl rfl hd
  refine ⟨T', h', X', e', W, ?_, st⟩
  have k := own_A.set F W rfl
  unfold own_AJ
  rwa [List.map_set]
theorem own_bastore (X : Stand p l e R s m args below meth c T locs cells slots) (C : own_Ctx p s m meth c Z y bytes maxL rt) (eT : T.heap = h) {vs vs' : List Int32} (F : own_AI Z h b .byte vs) {j x : Int32} (g : own_set vs j (x.toInt8.toInt32) = some vs') {pc : Nat} {Ls : Array Slot} {rest : List Value} (hd : decode c.code pc = .ok (.bastore, 1)) :
    ∃ T' h', Stand p l e R s m args below meth c T' (locs ++ [⟨b, j.toNatClampNeg⟩]) cells slots ∧ T'.heap = h' ∧ Wr h h' b j.toNatClampNeg (.int (x.toInt8.toInt32)) ∧ own_AI Z h' b .byte vs' ∧
      ∀ t, Steps p.tables e below (T'.setTop (mkF m (pc + 1) Ls rest)) t → Steps p.tables e below (T.setTop (mkF m pc Ls (.int x :: .int j :: .ref b :: rest))) t := by
  obtain ⟨hx, hZ, -⟩ := C
  obtain ⟨cl, A, hin, rfl⟩ := own_A.room F g
  obtain ⟨T', h', X', e', W, st⟩ := stB X hx hZ eT A (j := j) (x := x) hin (g := mkF m pc Ls (.int x :: .int j :: .ref b :: rest)) rfl rfl hd
  refine ⟨T', h', X', e', W, ?_, st⟩
  have k := own_A.set F W (fits_nar_byte x)
  unfold own_AI
  rwa [List.map_set]
theorem own_newI (X : Stand p l e R s m args below meth c T locs cells slots) (C : own_Ctx p s m meth c Z y bytes maxL rt) (eT : T.heap = h) {aty : ArrayType} (hk : newarray.typeOf aty = ty) (hdv : defaultValue ty = .int 0) (hfz : fits ty (.int 0) = true) (w : (Cond.arrayClass ty).before a0 Z = true) {n : Int32} (hn : ¬ n < 0) {cap : Nat} (hcap : n.toNatClampNeg ≤ cap) (hb : cap * 8 ≤ 536870912) (hc : cells + 1 ≤ R.cells) (hl : slots + cap ≤ R.slots)
    {pc : Nat} {Ls : Array Slot} {rest : List Value} (hd : decode c.code pc = .ok (.newarray aty, 2)) :
    ∃ T' h' b, Stand p l e R s m args below meth c T' locs (cells + 1) (slots + cap) ∧ T'.heap = h' ∧ Ext h h' ∧ b = h.size ∧ own_AI Z h' b ty (List.replicate n.toNatClampNeg 0) ∧
      ∀ t, Steps p.tables e below (T'.setTop (mkF m (pc + 2) Ls (.ref b :: rest))) t → Steps p.tables e below (T.setTop (mkF m pc Ls (.int n :: rest))) t := by
  obtain ⟨hx, hZ, -⟩ := C
  subst hk
  obtain ⟨T', h', k, X', e', E, A, Q, st⟩ := newPE X hx hZ w eT (g := mkF m pc Ls (.int n :: rest)) rfl hd rfl hn (cap := cap) hcap hb hc hl rfl
  refine ⟨T', h', h.size, X', e', E, rfl, ⟨Q, _, A, ?_, ?_, ?_⟩, st⟩
  · show Array.replicate _ _ = _
    rw [hdv]; simp
  · rw [List.map_replicate, List.length_replicate]; omega
  · intro v hv
    rw [List.map_replicate] at hv
    rw [List.eq_of_mem_replicate hv]
    exact hfz
theorem own_newJ (X : Stand p l e R s m args below meth c T locs cells slots) (C : own_Ctx p s m meth c Z y bytes maxL rt) (eT : T.heap = h) {aty : ArrayType} (hk : newarray.typeOf aty = ty) (hdv : defaultValue ty = .long 0) (hfz : fits ty (.long 0) = true) (w : (Cond.arrayClass ty).before a0 Z = true) {n : Int32} (hn : ¬ n < 0) {cap : Nat} (hcap : n.toNatClampNeg ≤ cap) (hb : cap * 8 ≤ 536870912) (hc : cells + 1 ≤ R.cells) (hl : slots + cap ≤ R.slots)
    {pc : Nat} {Ls : Array Slot} {rest : List Value} (hd : decode c.code pc = .ok (.newarray aty, 2)) :
    ∃ T' h' b, Stand p l e R s m args below meth c T' locs (cells + 1) (slots + cap) ∧ T'.heap = h' ∧ Ext h h' ∧ b = h.size ∧ own_AJ Z h' b ty (List.replicate n.toNatClampNeg 0) ∧
      ∀ t, Steps p.tables e below (T'.setTop (mkF m (pc + 2) Ls (.ref b :: rest))) t → Steps p.tables e below (T.setTop (mkF m pc Ls (.int n :: rest))) t := by
  obtain ⟨hx, hZ, -⟩ := C
  subst hk
  obtain ⟨T', h', k, X', e', E, A, Q, st⟩ := newPE X hx hZ w eT (g := mkF m pc Ls (.int n :: rest)) rfl hd rfl hn (cap := cap) hcap hb hc hl rfl
  refine ⟨T', h', h.size, X', e', E, rfl, ⟨Q, _, A, ?_, ?_, ?_⟩, st⟩
  · show Array.replicate _ _ = _
    rw [hdv]; simp
  · rw [List.map_replicate, List.length_replicate]; omega
  · intro v hv
    rw [List.map_replicate] at hv
    rw [List.eq_of_mem_replicate hv]
    exact hfz
end Own
end Jvm.Pilot.@@N@@
namespace Jvm.Pilot.@@N@@
open Jvm Jvm.ClassFile Sem Op Lib Jvm.Free Jvm.Stand Jvm.LawKit Jvm.RoadKit Bundle Jvm.Pilot.@@N@@.Jvm.D
theorem d1_0 : decode jdk_29_method_69_code 0 = .ok (.iload_n 0, 1) := by decide +kernel
theorem d1_1 : decode jdk_29_method_69_code 1 = .ok (.iload_n 1, 1) := by decide +kernel
theorem d1_2 : decode jdk_29_method_69_code 2 = .ok (.if_icmp .gt 7, 3) := by decide +kernel
theorem d1_5 : decode jdk_29_method_69_code 5 = .ok (.iload_n 0, 1) := by decide +kernel
theorem d1_6 : decode jdk_29_method_69_code 6 = .ok (.goto 4, 3) := by decide +kernel
theorem d1_9 : decode jdk_29_method_69_code 9 = .ok (.iload_n 1, 1) := by decide +kernel
theorem d1_10 : decode jdk_29_method_69_code 10 = .ok (.ireturn, 1) := by decide +kernel
def rmR1 : Room := { frames := 0, cells := 0, slots := 0, locals := 0 }
def f1_0 (x0 : Int32) (x1 : Int32) : Int32 := (if x1 < x0 then x1 else x0)
set_option maxRecDepth 65536 in
set_option maxHeartbeats 40000000 in
theorem b1_0 {p : Program} {l : Launch} {e : Env} {s : State} {m : MethodId} {args : Array Value} {below : List Frame} {meth : Method} {c : Code} {T : State} {locs : List Loc} {Z : State} {a0 : Array Value} {h0 : Heap} {P : Option Value → Heap → List Loc → Prop} (hw : ∀ d ∈ tables_1, d.before a0 Z = true) (C : own_Ctx p s m meth c Z (⟨"java/lang/Math", "min", "(II)I"⟩ : MethodName) jdk_29_method_69_code 2 (some .int))
    (X : Stand p l e rmR1 s m args below meth c T locs 0 0) (e0 : T.heap = h0) (x0 : Int32) (x1 : Int32) (r : Int32) (hv : f1_0 x0 x1 = r) (hP : P (some (.int r)) h0 locs) :
    own_WP p e below (own_Q s P rmR1.cells rmR1.slots) T (mkF m 0 #[.val (.int x0), .val (.int x1)] []) := by
  obtain ⟨hx, hZ, hby, hml, hown, hnm, hret, hlk⟩ := id C
  unfold f1_0 at hv
  show own_WP p e below _ T (mkF m 0 #[.val (.int x0), .val (.int x1)] [])
  refine own_go (fun _ => XS.iloadN X.here hx rfl (hb hby d1_0) rfl) ?_
  show own_WP p e below _ T (mkF m 1 #[.val (.int x0), .val (.int x1)] [(.int x0)])
  refine own_go (fun _ => XS.iloadN X.here hx rfl (hb hby d1_1) rfl) ?_
  show own_WP p e below _ T (mkF m 2 #[.val (.int x0), .val (.int x1)] [(.int x1), (.int x0)])
  by_cases h2 : x1 < x0
  · replace hv := (if_pos h2).symm.trans hv
    refine own_go (fun _ => XS.icmpYes X.here hx rfl (pc0 := 2) (pc' := 9) rfl (hb hby d1_2) rfl (XT.ii_gt_t h2) (by decide) (by decide)) ?_
    show own_WP p e below _ T (mkF m 9 #[.val (.int x0), .val (.int x1)] [])
    refine own_go (fun _ => XS.iloadN X.here hx rfl (hb hby d1_9) rfl) ?_
    show own_WP p e below _ T (mkF m 10 #[.val (.int x0), .val (.int x1)] [(.int x1)])
    subst hv e0; exact own_retI X C (hb hby d1_10) hP (by decide) (by decide)
  · replace hv := (if_neg h2).symm.trans hv
    refine own_go (fun _ => XS.icmpNo X.here hx rfl (hb hby d1_2) rfl (XT.ii_gt_f h2)) ?_
    show own_WP p e below _ T (mkF m 5 #[.val (.int x0), .val (.int x1)] [])
    refine own_go (fun _ => XS.iloadN X.here hx rfl (hb hby d1_5) rfl) ?_
    show own_WP p e below _ T (mkF m 6 #[.val (.int x0), .val (.int x1)] [(.int x0)])
    refine own_go (fun _ => XS.goto X.here hx rfl (pc0 := 6) (pc' := 10) rfl (hb hby d1_6) (by decide) (by decide)) ?_
    show own_WP p e below _ T (mkF m 10 #[.val (.int x0), .val (.int x1)] [(.int x0)])
    subst hv e0; exact own_retI X C (hb hby d1_10) hP (by decide) (by decide)
theorem ef1 (m : MethodId) (x0 : Int32) (x1 : Int32) : entryFrame m #[(.int x0), (.int x1)] 2 = (mkF m 0 #[.val (.int x0), .val (.int x1)] []) := by first | (simp [entryFrame, mkF, argsToLocals, Value.category]; done) | rfl
theorem pd1 : parseMethodDescriptor "(II)I" = some ⟨[.int, .int], some .int⟩ := by decide +kernel
theorem pn1 : plainFor (⟨"java/lang/Math", "min", "(II)I"⟩ : MethodName) = true := Jvm.Free.JP.mathPlain rfl (by decide +kernel)
theorem rm1 (l : Launch) (Z : State) (a0 : Array Value) (hw : ∀ d ∈ tables_1, d.before a0 Z = true) (x0 : Int32) (x1 : Int32) (h0 : Heap) : own_Met l Z (⟨"java/lang/Math", "min", "(II)I"⟩ : MethodName) jdk_29_method_69_code 2 (some .int) [] rmR1 #[(.int x0), (.int x1)] h0 (fun v h L => v = some (.int (f1_0 x0 x1)) ∧ L = [] ∧ h = h0) := by
  refine own_body pn1 ?_
  intro p e s m below meth c s₁ C X e0
  exact own_cast (ef1 m x0 x1) (b1_0 hw C X e0 x0 x1 _ rfl ⟨rfl, rfl, rfl⟩)
theorem d2_0 : decode jdk_29_method_65_code 0 = .ok (.iload_n 0, 1) := by decide +kernel
theorem d2_1 : decode jdk_29_method_65_code 1 = .ok (.iload_n 1, 1) := by decide +kernel
theorem d2_2 : decode jdk_29_method_65_code 2 = .ok (.if_icmp .lt 7, 3) := by decide +kernel
theorem d2_5 : decode jdk_29_method_65_code 5 = .ok (.iload_n 0, 1) := by decide +kernel
theorem d2_6 : decode jdk_29_method_65_code 6 = .ok (.goto 4, 3) := by decide +kernel
theorem d2_9 : decode jdk_29_method_65_code 9 = .ok (.iload_n 1, 1) := by decide +kernel
theorem d2_10 : decode jdk_29_method_65_code 10 = .ok (.ireturn, 1) := by decide +kernel
def rmR2 : Room := { frames := 0, cells := 0, slots := 0, locals := 0 }
def f2_0 (x0 : Int32) (x1 : Int32) : Int32 := (if x0 < x1 then x1 else x0)
set_option maxRecDepth 65536 in
set_option maxHeartbeats 40000000 in
theorem b2_0 {p : Program} {l : Launch} {e : Env} {s : State} {m : MethodId} {args : Array Value} {below : List Frame} {meth : Method} {c : Code} {T : State} {locs : List Loc} {Z : State} {a0 : Array Value} {h0 : Heap} {P : Option Value → Heap → List Loc → Prop} (hw : ∀ d ∈ tables_1, d.before a0 Z = true) (C : own_Ctx p s m meth c Z (⟨"java/lang/Math", "max", "(II)I"⟩ : MethodName) jdk_29_method_65_code 2 (some .int))
    (X : Stand p l e rmR2 s m args below meth c T locs 0 0) (e0 : T.heap = h0) (x0 : Int32) (x1 : Int32) (r : Int32) (hv : f2_0 x0 x1 = r) (hP : P (some (.int r)) h0 locs) :
    own_WP p e below (own_Q s P rmR2.cells rmR2.slots) T (mkF m 0 #[.val (.int x0), .val (.int x1)] []) := by
  obtain ⟨hx, hZ, hby, hml, hown, hnm, hret, hlk⟩ := id C
  unfold f2_0 at hv
  show own_WP p e below _ T (mkF m 0 #[.val (.int x0), .val (.int x1)] [])
  refine own_go (fun _ => XS.iloadN X.here hx rfl (hb hby d2_0) rfl) ?_
  show own_WP p e below _ T (mkF m 1 #[.val (.int x0), .val (.int x1)] [(.int x0)])
  refine own_go (fun _ => XS.iloadN X.here hx rfl (hb hby d2_1) rfl) ?_
  show own_WP p e below _ T (mkF m 2 #[.val (.int x0), .val (.int x1)] [(.int x1), (.int x0)])
  by_cases h2 : x0 < x1
  · replace hv := (if_pos h2).symm.trans hv
    refine own_go (fun _ => XS.icmpYes X.here hx rfl (pc0 := 2) (pc' := 9) rfl (hb hby d2_2) rfl (XT.ii_lt_t h2) (by decide) (by decide)) ?_
    show own_WP p e below _ T (mkF m 9 #[.val (.int x0), .val (.int x1)] [])
    refine own_go (fun _ => XS.iloadN X.here hx rfl (hb hby d2_9) rfl) ?_
    show own_WP p e below _ T (mkF m 10 #[.val (.int x0), .val (.int x1)] [(.int x1)])
    subst hv e0; exact own_retI X C (hb hby d2_10) hP (by decide) (by decide)
  · replace hv := (if_neg h2).symm.trans hv
    refine own_go (fun _ => XS.icmpNo X.here hx rfl (hb hby d2_2) rfl (XT.ii_lt_f h2)) ?_
    show own_WP p e below _ T (mkF m 5 #[.val (.int x0), .val (.int x1)] [])
    refine own_go (fun _ => XS.iloadN X.here hx rfl (hb hby d2_5) rfl) ?_
    show own_WP p e below _ T (mkF m 6 #[.val (.int x0), .val (.int x1)] [(.int x0)])
    refine own_go (fun _ => XS.goto X.here hx rfl (pc0 := 6) (pc' := 10) rfl (hb hby d2_6) (by decide) (by decide)) ?_
    show own_WP p e below _ T (mkF m 10 #[.val (.int x0), .val (.int x1)] [(.int x0)])
    subst hv e0; exact own_retI X C (hb hby d2_10) hP (by decide) (by decide)
theorem ef2 (m : MethodId) (x0 : Int32) (x1 : Int32) : entryFrame m #[(.int x0), (.int x1)] 2 = (mkF m 0 #[.val (.int x0), .val (.int x1)] []) := by first | (simp [entryFrame, mkF, argsToLocals, Value.category]; done) | rfl
theorem pd2 : parseMethodDescriptor "(II)I" = some ⟨[.int, .int], some .int⟩ := by decide +kernel
theorem pn2 : plainFor (⟨"java/lang/Math", "max", "(II)I"⟩ : MethodName) = true := Jvm.Free.JP.mathPlain rfl (by decide +kernel)
theorem rm2 (l : Launch) (Z : State) (a0 : Array Value) (hw : ∀ d ∈ tables_1, d.before a0 Z = true) (x0 : Int32) (x1 : Int32) (h0 : Heap) : own_Met l Z (⟨"java/lang/Math", "max", "(II)I"⟩ : MethodName) jdk_29_method_65_code 2 (some .int) [] rmR2 #[(.int x0), (.int x1)] h0 (fun v h L => v = some (.int (f2_0 x0 x1)) ∧ L = [] ∧ h = h0) := by
  refine own_body pn2 ?_
  intro p e s m below meth c s₁ C X e0
  exact own_cast (ef2 m x0 x1) (b2_0 hw C X e0 x0 x1 _ rfl ⟨rfl, rfl, rfl⟩)
theorem d3_0 : decode prog_188_method_13_code 0 = .ok (.iload_n 0, 1) := by decide +kernel
theorem d3_1 : decode prog_188_method_13_code 1 = .ok (.bipush 32, 2) := by decide +kernel
theorem d3_3 : decode prog_188_method_13_code 3 = .ok (.if_icmp .ge 35, 3) := by decide +kernel
theorem d3_6 : decode prog_188_method_13_code 6 = .ok (.iload_n 0, 1) := by decide +kernel
theorem d3_7 : decode prog_188_method_13_code 7 = .ok (.bipush 9, 2) := by decide +kernel
theorem d3_9 : decode prog_188_method_13_code 9 = .ok (.if_icmp .eq 23, 3) := by decide +kernel
theorem d3_12 : decode prog_188_method_13_code 12 = .ok (.iload_n 0, 1) := by decide +kernel
theorem d3_13 : decode prog_188_method_13_code 13 = .ok (.bipush 10, 2) := by decide +kernel
theorem d3_15 : decode prog_188_method_13_code 15 = .ok (.if_icmp .eq 17, 3) := by decide +kernel
theorem d3_18 : decode prog_188_method_13_code 18 = .ok (.iload_n 0, 1) := by decide +kernel
theorem d3_19 : decode prog_188_method_13_code 19 = .ok (.bipush 13, 2) := by decide +kernel
theorem d3_21 : decode prog_188_method_13_code 21 = .ok (.if_icmp .eq 11, 3) := by decide +kernel
theorem d3_24 : decode prog_188_method_13_code 24 = .ok (.iload_n 1, 1) := by decide +kernel
theorem d3_25 : decode prog_188_method_13_code 25 = .ok (.ifCond .eq 11, 3) := by decide +kernel
theorem d3_28 : decode prog_188_method_13_code 28 = .ok (.iload_n 0, 1) := by decide +kernel
theorem d3_29 : decode prog_188_method_13_code 29 = .ok (.ifCond .eq 7, 3) := by decide +kernel
theorem d3_32 : decode prog_188_method_13_code 32 = .ok (.iconst 1, 1) := by decide +kernel
theorem d3_33 : decode prog_188_method_13_code 33 = .ok (.goto 4, 3) := by decide +kernel
theorem d3_36 : decode prog_188_method_13_code 36 = .ok (.iconst 0, 1) := by decide +kernel
theorem d3_37 : decode prog_188_method_13_code 37 = .ok (.ireturn, 1) := by decide +kernel
theorem d3_38 : decode prog_188_method_13_code 38 = .ok (.iload_n 0, 1) := by decide +kernel
theorem d3_39 : decode prog_188_method_13_code 39 = .ok (.ldc 141, 2) := by decide +kernel
theorem d3_41 : decode prog_188_method_13_code 41 = .ok (.if_icmp .le 21, 3) := by decide +kernel
theorem d3_44 : decode prog_188_method_13_code 44 = .ok (.iload_n 0, 1) := by decide +kernel
theorem d3_45 : decode prog_188_method_13_code 45 = .ok (.ldc 142, 2) := by decide +kernel
theorem d3_47 : decode prog_188_method_13_code 47 = .ok (.if_icmp .lt 9, 3) := by decide +kernel
theorem d3_50 : decode prog_188_method_13_code 50 = .ok (.iload_n 0, 1) := by decide +kernel
theorem d3_51 : decode prog_188_method_13_code 51 = .ok (.ldc 143, 2) := by decide +kernel
theorem d3_53 : decode prog_188_method_13_code 53 = .ok (.if_icmp .le 9, 3) := by decide +kernel
theorem d3_56 : decode prog_188_method_13_code 56 = .ok (.iload_n 0, 1) := by decide +kernel
theorem d3_57 : decode prog_188_method_13_code 57 = .ok (.ldc 144, 2) := by decide +kernel
theorem d3_59 : decode prog_188_method_13_code 59 = .ok (.if_icmp .lt 7, 3) := by decide +kernel
theorem d3_62 : decode prog_188_method_13_code 62 = .ok (.iconst 1, 1) := by decide +kernel
theorem d3_63 : decode prog_188_method_13_code 63 = .ok (.goto 4, 3) := by decide +kernel
theorem d3_66 : decode prog_188_method_13_code 66 = .ok (.iconst 0, 1) := by decide +kernel
theorem d3_67 : decode prog_188_method_13_code 67 = .ok (.ireturn, 1) := by decide +kernel
def rmR3 : Room := { frames := 0, cells := 0, slots := 0, locals := 0 }
def f3_56 (x0 : Int32) : Int32 := (if x0 < (65536 : Int32) then (0 : Int32) else (1 : Int32))
set_option maxRecDepth 65536 in
set_option maxHeartbeats 40000000 in
theorem b3_56 {p : Program} {l : Launch} {e : Env} {s : State} {m : MethodId} {args : Array Value} {below : List Frame} {meth : Method} {c : Code} {T : State} {locs : List Loc} {Z : State} {a0 : Array Value} {h0 : Heap} {P : Option Value → Heap → List Loc → Prop} (hw : ∀ d ∈ tables_1, d.before a0 Z = true) (C : own_Ctx p s m meth c Z (⟨"com/example/kvasir/kvasir/XmlVersion", "isChar", "(IZ)Z"⟩ : MethodName) prog_188_method_13_code 2 (some .boolean))
    (X : Stand p l e rmR3 s m args below meth c T locs 0 0) (e0 : T.heap = h0) (x0 : Int32) (x1 : Int32) (r : Int32) (hv : f3_56 x0 = r) (hP : P (some (.int r)) h0 locs) :
    own_WP p e below (own_Q s P rmR3.cells rmR3.slots) T (mkF m 56 #[.val (.int x0), .val (.int x1)] []) := by
  obtain ⟨hx, hZ, hby, hml, hown, hnm, hret, hlk⟩ := id C
  unfold f3_56 at hv
  show own_WP p e below _ T (mkF m 56 #[.val (.int x0), .val (.int x1)] [])
  refine own_go (fun _ => XS.iloadN X.here hx rfl (hb hby d3_56) rfl) ?_
  show own_WP p e below _ T (mkF m 57 #[.val (.int x0), .val (.int x1)] [(.int x0)])
  refine own_go (X.ldcInt hx hown (mvT hZ (hw _ (List.mem_of_getElem? (i := 26) rfl))) (g := (mkF m 57 #[.val (.int x0), .val (.int x1)] [(.int x0)])) rfl (hb hby d3_57)) ?_
  show own_WP p e below _ T (mkF m 59 #[.val (.int x0), .val (.int x1)] [(.int (65536 : Int32)), (.int x0)])
  by_cases h59 : x0 < (65536 : Int32)
  · replace hv := (if_pos h59).symm.trans hv
    refine own_go (fun _ => XS.icmpYes X.here hx rfl (pc0 := 59) (pc' := 66) rfl (hb hby d3_59) rfl (XT.ii_lt_t h59) (by decide) (by decide)) ?_
    show own_WP p e below _ T (mkF m 66 #[.val (.int x0), .val (.int x1)] [])
    refine own_go (fun _ => XS.iconst X.here hx rfl (hb hby d3_66)) ?_
    show own_WP p e below _ T (mkF m 67 #[.val (.int x0), .val (.int x1)] [(.int (0 : Int32))])
    subst hv e0; exact own_retN X C (by simp) (hb hby d3_67) hP (by decide) (by decide)
  · replace hv := (if_neg h59).symm.trans hv
    refine own_go (fun _ => XS.icmpNo X.here hx rfl (hb hby d3_59) rfl (XT.ii_lt_f h59)) ?_
    show own_WP p e below _ T (mkF m 62 #[.val (.int x0), .val (.int x1)] [])
    refine own_go (fun _ => XS.iconst X.here hx rfl (hb hby d3_62)) ?_
    show own_WP p e below _ T (mkF m 63 #[.val (.int x0), .val (.int x1)] [(.int (1 : Int32))])
    refine own_go (fun _ => XS.goto X.here hx rfl (pc0 := 63) (pc' := 67) rfl (hb hby d3_63) (by decide) (by decide)) ?_
    show own_WP p e below _ T (mkF m 67 #[.val (.int x0), .val (.int x1)] [(.int (1 : Int32))])
    subst hv e0; exact own_retN X C (by simp) (hb hby d3_67) hP (by decide) (by decide)
def f3_0 (x0 : Int32) (x1 : Int32) : Int32 := (if x0 < (32 : Int32) then (if x0 = (9 : Int32) then (1 : Int32) else (if x0 = (10 : Int32) then (1 : Int32) else (if x0 = (13 : Int32) then (1 : Int32) else (if x1 = (0 : Int32) then (0 : Int32) else (if x0 = (0 : Int32) then (0 : Int32) else (1 : Int32)))))) else (if (55295 : Int32) < x0 then (if x0 < (57344 : Int32) then (f3_56 x0) else (if (65533 : Int32) < x0 then (f3_56 x0) else (1 : Int32))) else (1 : Int32)))
set_option maxRecDepth 65536 in
set_option maxHeartbeats 40000000 in
theorem b3_0 {p : Program} {l : Launch} {e : Env} {s : State} {m : MethodId} {args : Array Value} {below : List Frame} {meth : Method} {c : Code} {T : State} {locs : List Loc} {Z : State} {a0 : Array Value} {h0 : Heap} {P : Option Value → Heap → List Loc → Prop} (hw : ∀ d ∈ tables_1, d.before a0 Z = true) (C : own_Ctx p s m meth c Z (⟨"com/example/kvasir/kvasir/XmlVersion", "isChar", "(IZ)Z"⟩ : MethodName) prog_188_method_13_code 2 (some .boolean))
    (X : Stand p l e rmR3 s m args below meth c T locs 0 0) (e0 : T.heap = h0) (x0 : Int32) (x1 : Int32) (r : Int32) (hv : f3_0 x0 x1 = r) (hP : P (some (.int r)) h0 locs) :
    own_WP p e below (own_Q s P rmR3.cells rmR3.slots) T (mkF m 0 #[.val (.int x0), .val (.int x1)] []) := by
  obtain ⟨hx, hZ, hby, hml, hown, hnm, hret, hlk⟩ := id C
  unfold f3_0 at hv
  show own_WP p e below _ T (mkF m 0 #[.val (.int x0), .val (.int x1)] [])
  refine own_go (fun _ => XS.iloadN X.here hx rfl (hb hby d3_0) rfl) ?_
  show own_WP p e below _ T (mkF m 1 #[.val (.int x0), .val (.int x1)] [(.int x0)])
  refine own_go (fun _ => XS.bipush X.here hx rfl (hb hby d3_1)) ?_
  show own_WP p e below _ T (mkF m 3 #[.val (.int x0), .val (.int x1)] [(.int (32 : Int32)), (.int x0)])
  by_cases h3 : x0 < (32 : Int32)
  · replace hv := (if_pos h3).symm.trans hv
    refine own_go (fun _ => XS.icmpNo X.here hx rfl (hb hby d3_3) rfl (XT.ii_ge_f h3)) ?_
    show own_WP p e below _ T (mkF m 6 #[.val (.int x0), .val (.int x1)] [])
    refine own_go (fun _ => XS.iloadN X.here hx rfl (hb hby d3_6) rfl) ?_
    show own_WP p e below _ T (mkF m 7 #[.val (.int x0), .val (.int x1)] [(.int x0)])
    refine own_go (fun _ => XS.bipush X.here hx rfl (hb hby d3_7)) ?_
    show own_WP p e below _ T (mkF m 9 #[.val (.int x0), .val (.int x1)] [(.int (9 : Int32)), (.int x0)])
    by_cases h9 : x0 = (9 : Int32)
    · replace hv := (if_pos h9).symm.trans hv
      refine own_go (fun _ => XS.icmpYes X.here hx rfl (pc0 := 9) (pc' := 32) rfl (hb hby d3_9) rfl (XT.ii_eq_t h9) (by decide) (by decide)) ?_
      show own_WP p e below _ T (mkF m 32 #[.val (.int x0), .val (.int x1)] [])
      refine own_go (fun _ => XS.iconst X.here hx rfl (hb hby d3_32)) ?_
      show own_WP p e below _ T (mkF m 33 #[.val (.int x0), .val (.int x1)] [(.int (1 : Int32))])
      refine own_go (fun _ => XS.goto X.here hx rfl (pc0 := 33) (pc' := 37) rfl (hb hby d3_33) (by decide) (by decide)) ?_
      show own_WP p e below _ T (mkF m 37 #[.val (.int x0), .val (.int x1)] [(.int (1 : Int32))])
      subst hv e0; exact own_retN X C (by simp) (hb hby d3_37) hP (by decide) (by decide)
    · replace hv := (if_neg h9).symm.trans hv
      refine own_go (fun _ => XS.icmpNo X.here hx rfl (hb hby d3_9) rfl (XT.ii_eq_f h9)) ?_
      show own_WP p e below _ T (mkF m 12 #[.val (.int x0), .val (.int x1)] [])
      refine own_go (fun _ => XS.iloadN X.here hx rfl (hb hby d3_12) rfl) ?_
      show own_WP p e below _ T (mkF m 13 #[.val (.int x0), .val (.int x1)] [(.int x0)])
      refine own_go (fun _ => XS.bipush X.here hx rfl (hb hby d3_13)) ?_
      show own_WP p e below _ T (mkF m 15 #[.val (.int x0), .val (.int x1)] [(.int (10 : Int32)), (.int x0)])
      by_cases h15 : x0 = (10 : Int32)
      · replace hv := (if_pos h15).symm.trans hv
        refine own_go (fun _ => XS.icmpYes X.here hx rfl (pc0 := 15) (pc' := 32) rfl (hb hby d3_15) rfl (XT.ii_eq_t h15) (by decide) (by decide)) ?_
        show own_WP p e below _ T (mkF m 32 #[.val (.int x0), .val (.int x1)] [])
        refine own_go (fun _ => XS.iconst X.here hx rfl (hb hby d3_32)) ?_
        show own_WP p e below _ T (mkF m 33 #[.val (.int x0), .val (.int x1)] [(.int (1 : Int32))])
        refine own_go (fun _ => XS.goto X.here hx rfl (pc0 := 33) (pc' := 37) rfl (hb hby d3_33) (by decide) (by decide)) ?_
        show own_WP p e below _ T (mkF m 37 #[.val (.int x0), .val (.int x1)] [(.int (1 : Int32))])
        subst hv e0; exact own_retN X C (by simp) (hb hby d3_37) hP (by decide) (by decide)
      · replace hv := (if_neg h15).symm.trans hv
        refine own_go (fun _ => XS.icmpNo X.here hx rfl (hb hby d3_15) rfl (XT.ii_eq_f h15)) ?_
        show own_WP p e below _ T (mkF m 18 #[.val (.int x0), .val (.int x1)] [])
        refine own_go (fun _ => XS.iloadN X.here hx rfl (hb hby d3_18) rfl) ?_
        show own_WP p e below _ T (mkF m 19 #[.val (.int x0), .val (.int x1)] [(.int x0)])
        refine own_go (fun _ => XS.bipush X.here hx rfl (hb hby d3_19)) ?_
        show own_WP p e below _ T (mkF m 21 #[.val (.int x0), .val (.int x1)] [(.int (13 : Int32)), (.int x0)])
        by_cases h21 : x0 = (13 : Int32)
        · replace hv := (if_pos h21).symm.trans hv
          refine own_go (fun _ => XS.icmpYes X.here hx rfl (pc0 := 21) (pc' := 32) rfl (hb hby d3_21) rfl (XT.ii_eq_t h21) (by decide) (by decide)) ?_
          show own_WP p e below _ T (mkF m 32 #[.val (.int x0), .val (.int x1)] [])
          refine own_go (fun _ => XS.iconst X.here hx rfl (hb hby d3_32)) ?_
          show own_WP p e below _ T (mkF m 33 #[.val (.int x0), .val (.int x1)] [(.int (1 : Int32))])
          refine own_go (fun _ => XS.goto X.here hx rfl (pc0 := 33) (pc' := 37) rfl (hb hby d3_33) (by decide) (by decide)) ?_
          show own_WP p e below _ T (mkF m 37 #[.val (.int x0), .val (.int x1)] [(.int (1 : Int32))])
          subst hv e0; exact own_retN X C (by simp) (hb hby d3_37) hP (by decide) (by decide)
        · replace hv := (if_neg h21).symm.trans hv
          refine own_go (fun _ => XS.icmpNo X.here hx rfl (hb hby d3_21) rfl (XT.ii_eq_f h21)) ?_
          show own_WP p e below _ T (mkF m 24 #[.val (.int x0), .val (.int x1)] [])
          refine own_go (fun _ => XS.iloadN X.here hx rfl (hb hby d3_24) rfl) ?_
          show own_WP p e below _ T (mkF m 25 #[.val (.int x0), .val (.int x1)] [(.int x1)])
          by_cases h25 : x1 = (0 : Int32)
          · replace hv := (if_pos h25).symm.trans hv
            refine own_go (fun _ => XS.ifYes X.here hx rfl (pc0 := 25) (pc' := 36) rfl (hb hby d3_25) rfl (XT.i0_eq_t h25) (by decide) (by decide)) ?_
            show own_WP p e below _ T (mkF m 36 #[.val (.int x0), .val (.int x1)] [])
            refine own_go (fun _ => XS.iconst X.here hx rfl (hb hby d3_36)) ?_
            show own_WP p e below _ T (mkF m 37 #[.val (.int x0), .val (.int x1)] [(.int (0 : Int32))])
            subst hv e0; exact own_retN X C (by simp) (hb hby d3_37) hP (by decide) (by decide)
          · replace hv := (if_neg h25).symm.trans hv
            refine own_go (fun _ => XS.ifNo X.here hx rfl (hb hby d3_25) rfl (XT.i0_eq_f h25)) ?_
            show own_WP p e below _ T (mkF m 28 #[.val (.int x0), .val (.int x1)] [])
            refine own_go (fun _ => XS.iloadN X.here hx rfl (hb hby d3_28) rfl) ?_
            show own_WP p e below _ T (mkF m 29 #[.val (.int x0), .val (.int x1)] [(.int x0)])
            by_cases h29 : x0 = (0 : Int32)
            · replace hv := (if_pos h29).symm.trans hv
              refine own_go (fun _ => XS.ifYes X.here hx rfl (pc0 := 29) (pc' := 36) rfl (hb hby d3_29) rfl (XT.i0_eq_t h29) (by decide) (by decide)) ?_
              show own_WP p e below _ T (mkF m 36 #[.val (.int x0), .val (.int x1)] [])
              refine own_go (fun _ => XS.iconst X.here hx rfl (hb hby d3_36)) ?_
              show own_WP p e below _ T (mkF m 37 #[.val (.int x0), .val (.int x1)] [(.int (0 : Int32))])
              subst hv e0; exact own_retN X C (by simp) (hb hby d3_37) hP (by decide) (by decide)
            · replace hv := (if_neg h29).symm.trans hv
              refine own_go (fun _ => XS.ifNo X.here hx rfl (hb hby d3_29) rfl (XT.i0_eq_f h29)) ?_
              show own_WP p e below _ T (mkF m 32 #[.val (.int x0), .val (.int x1)] [])
              refine own_go (fun _ => XS.iconst X.here hx rfl (hb hby d3_32)) ?_
              show own_WP p e below _ T (mkF m 33 #[.val (.int x0), .val (.int x1)] [(.int (1 : Int32))])
              refine own_go (fun _ => XS.goto X.here hx rfl (pc0 := 33) (pc' := 37) rfl (hb hby d3_33) (by decide) (by decide)) ?_
              show own_WP p e below _ T (mkF m 37 #[.val (.int x0), .val (.int x1)] [(.int (1 : Int32))])
              subst hv e0; exact own_retN X C (by simp) (hb hby d3_37) hP (by decide) (by decide)
  · replace hv := (if_neg h3).symm.trans hv
    refine own_go (fun _ => XS.icmpYes X.here hx rfl (pc0 := 3) (pc' := 38) rfl (hb hby d3_3) rfl (XT.ii_ge_t h3) (by decide) (by decide)) ?_
    show own_WP p e below _ T (mkF m 38 #[.val (.int x0), .val (.int x1)] [])
    refine own_go (fun _ => XS.iloadN X.here hx rfl (hb hby d3_38) rfl) ?_
    show own_WP p e below _ T (mkF m 39 #[.val (.int x0), .val (.int x1)] [(.int x0)])
    refine own_go (X.ldcInt hx hown (mvT hZ (hw _ (List.mem_of_getElem? (i := 22) rfl))) (g := (mkF m 39 #[.val (.int x0), .val (.int x1)] [(.int x0)])) rfl (hb hby d3_39)) ?_
    show own_WP p e below _ T (mkF m 41 #[.val (.int x0), .val (.int x1)] [(.int (55295 : Int32)), (.int x0)])
    by_cases h41 : (55295 : Int32) < x0
    · replace hv := (if_pos h41).symm.trans hv
      refine own_go (fun _ => XS.icmpNo X.here hx rfl (hb hby d3_41) rfl (XT.ii_le_f h41)) ?_
      show own_WP p e below _ T (mkF m 44 #[.val (.int x0), .val (.int x1)] [])
      refine own_go (fun _ => XS.iloadN X.here hx rfl (hb hby d3_44) rfl) ?_
      show own_WP p e below _ T (mkF m 45 #[.val (.int x0), .val (.int x1)] [(.int x0)])
      refine own_go (X.ldcInt hx hown (mvT hZ (hw _ (List.mem_of_getElem? (i := 23) rfl))) (g := (mkF m 45 #[.val (.int x0), .val (.int x1)] [(.int x0)])) rfl (hb hby d3_45)) ?_
      show own_WP p e below _ T (mkF m 47 #[.val (.int x0), .val (.int x1)] [(.int (57344 : Int32)), (.int x0)])
      by_cases h47 : x0 < (57344 : Int32)
      · replace hv := (if_pos h47).symm.trans hv
        refine own_go (fun _ => XS.icmpYes X.here hx rfl (pc0 := 47) (pc' := 56) rfl (hb hby d3_47) rfl (XT.ii_lt_t h47) (by decide) (by decide)) ?_
        exact b3_56 hw C X e0 x0 x1 r hv hP
      · replace hv := (if_neg h47).symm.trans hv
        refine own_go (fun _ => XS.icmpNo X.here hx rfl (hb hby d3_47) rfl (XT.ii_lt_f h47)) ?_
        show own_WP p e below _ T (mkF m 50 #[.val (.int x0), .val (.int x1)] [])
        refine own_go (fun _ => XS.iloadN X.here hx rfl (hb hby d3_50) rfl) ?_
        show own_WP p e below _ T (mkF m 51 #[.val (.int x0), .val (.int x1)] [(.int x0)])
        refine own_go (X.ldcInt hx hown (mvT hZ (hw _ (List.mem_of_getElem? (i := 24) rfl))) (g := (mkF m 51 #[.val (.int x0), .val (.int x1)] [(.int x0)])) rfl (hb hby d3_51)) ?_
        show own_WP p e below _ T (mkF m 53 #[.val (.int x0), .val (.int x1)] [(.int (65533 : Int32)), (.int x0)])
        by_cases h53 : (65533 : Int32) < x0
        · replace hv := (if_pos h53).symm.trans hv
          refine own_go (fun _ => XS.icmpNo X.here hx rfl (hb hby d3_53) rfl (XT.ii_le_f h53)) ?_
          exact b3_56 hw C X e0 x0 x1 r hv hP
        · replace hv := (if_neg h53).symm.trans hv
          refine own_go (fun _ => XS.icmpYes X.here hx rfl (pc0 := 53) (pc' := 62) rfl (hb hby d3_53) rfl (XT.ii_le_t h53) (by decide) (by decide)) ?_
          show own_WP p e below _ T (mkF m 62 #[.val (.int x0), .val (.int x1)] [])
          refine own_go (fun _ => XS.iconst X.here hx rfl (hb hby d3_62)) ?_
          show own_WP p e below _ T (mkF m 63 #[.val (.int x0), .val (.int x1)] [(.int (1 : Int32))])
          refine own_go (fun _ => XS.goto X.here hx rfl (pc0 := 63) (pc' := 67) rfl (hb hby d3_63) (by decide) (by decide)) ?_
          show own_WP p e below _ T (mkF m 67 #[.val (.int x0), .val (.int x1)] [(.int (1 : Int32))])
          subst hv e0; exact own_retN X C (by simp) (hb hby d3_67) hP (by decide) (by decide)
    · replace hv := (if_neg h41).symm.trans hv
      refine own_go (fun _ => XS.icmpYes X.here hx rfl (pc0 := 41) (pc' := 62) rfl (hb hby d3_41) rfl (XT.ii_le_t h41) (by decide) (by decide)) ?_
      show own_WP p e below _ T (mkF m 62 #[.val (.int x0), .val (.int x1)] [])
      refine own_go (fun _ => XS.iconst X.here hx rfl (hb hby d3_62)) ?_
      show own_WP p e below _ T (mkF m 63 #[.val (.int x0), .val (.int x1)] [(.int (1 : Int32))])
      refine own_go (fun _ => XS.goto X.here hx rfl (pc0 := 63) (pc' := 67) rfl (hb hby d3_63) (by decide) (by decide)) ?_
      show own_WP p e below _ T (mkF m 67 #[.val (.int x0), .val (.int x1)] [(.int (1 : Int32))])
      subst hv e0; exact own_retN X C (by simp) (hb hby d3_67) hP (by decide) (by decide)
theorem ef3 (m : MethodId) (x0 : Int32) (x1 : Int32) : entryFrame m #[(.int x0), (.int x1)] 2 = (mkF m 0 #[.val (.int x0), .val (.int x1)] []) := by first | (simp [entryFrame, mkF, argsToLocals, Value.category]; done) | rfl
theorem pd3 : parseMethodDescriptor "(IZ)Z" = some ⟨[.int, .boolean], some .boolean⟩ := by decide +kernel
theorem pn3 : plainFor (⟨"com/example/kvasir/kvasir/XmlVersion", "isChar", "(IZ)Z"⟩ : MethodName) = true := plainFor_of_name (by first | (simp [plainName, overriddenIn]; done) | decide +kernel)
theorem rm3 (l : Launch) (Z : State) (a0 : Array Value) (hw : ∀ d ∈ tables_1, d.before a0 Z = true) (x0 : Int32) (x1 : Int32) (h0 : Heap) : own_Met l Z (⟨"com/example/kvasir/kvasir/XmlVersion", "isChar", "(IZ)Z"⟩ : MethodName) prog_188_method_13_code 2 (some .boolean) [] rmR3 #[(.int x0), (.int x1)] h0 (fun v h L => v = some (.int (f3_0 x0 x1)) ∧ L = [] ∧ h = h0) := by
  refine own_body pn3 ?_
  intro p e s m below meth c s₁ C X e0
  exact own_cast (ef3 m x0 x1) (b3_0 hw C X e0 x0 x1 _ rfl ⟨rfl, rfl, rfl⟩)
theorem d4_0 : decode method_3_code 0 = .ok (.iload_n 0, 1) := by decide +kernel
theorem d4_1 : decode method_3_code 1 = .ok (.ldc 8, 2) := by decide +kernel
theorem d4_3 : decode method_3_code 3 = .ok (.if_icmp .lt 9, 3) := by decide +kernel
theorem d4_6 : decode method_3_code 6 = .ok (.iload_n 0, 1) := by decide +kernel
theorem d4_7 : decode method_3_code 7 = .ok (.ldc 9, 2) := by decide +kernel
theorem d4_9 : decode method_3_code 9 = .ok (.if_icmp .le 15, 3) := by decide +kernel
theorem d4_12 : decode method_3_code 12 = .ok (.iload_n 0, 1) := by decide +kernel
theorem d4_13 : decode method_3_code 13 = .ok (.ldc 10, 2) := by decide +kernel
theorem d4_15 : decode method_3_code 15 = .ok (.if_icmp .lt 13, 3) := by decide +kernel
theorem d4_18 : decode method_3_code 18 = .ok (.iload_n 0, 1) := by decide +kernel
theorem d4_19 : decode method_3_code 19 = .ok (.ldc 11, 2) := by decide +kernel
theorem d4_21 : decode method_3_code 21 = .ok (.if_icmp .gt 7, 3) := by decide +kernel
theorem d4_24 : decode method_3_code 24 = .ok (.iconst 1, 1) := by decide +kernel
theorem d4_25 : decode method_3_code 25 = .ok (.goto 4, 3) := by decide +kernel
theorem d4_28 : decode method_3_code 28 = .ok (.iconst 0, 1) := by decide +kernel
theorem d4_29 : decode method_3_code 29 = .ok (.istore_n 2, 1) := by decide +kernel
theorem d4_30 : decode method_3_code 30 = .ok (.iload_n 1, 1) := by decide +kernel
theorem d4_31 : decode method_3_code 31 = .ok (.ifCond .eq 24, 3) := by decide +kernel
theorem d4_34 : decode method_3_code 34 = .ok (.iload_n 0, 1) := by decide +kernel
theorem d4_35 : decode method_3_code 35 = .ok (.iconst 1, 1) := by decide +kernel
theorem d4_36 : decode method_3_code 36 = .ok (.if_icmp .lt 9, 3) := by decide +kernel
theorem d4_39 : decode method_3_code 39 = .ok (.iload_n 0, 1) := by decide +kernel
theorem d4_40 : decode method_3_code 40 = .ok (.ldc 7, 2) := by decide +kernel
theorem d4_42 : decode method_3_code 42 = .ok (.if_icmp .le 7, 3) := by decide +kernel
theorem d4_45 : decode method_3_code 45 = .ok (.iload_n 2, 1) := by decide +kernel
theorem d4_46 : decode method_3_code 46 = .ok (.ifCond .eq 7, 3) := by decide +kernel
theorem d4_49 : decode method_3_code 49 = .ok (.iconst 1, 1) := by decide +kernel
theorem d4_50 : decode method_3_code 50 = .ok (.goto 4, 3) := by decide +kernel
theorem d4_53 : decode method_3_code 53 = .ok (.iconst 0, 1) := by decide +kernel
theorem d4_54 : decode method_3_code 54 = .ok (.ireturn, 1) := by decide +kernel
theorem d4_55 : decode method_3_code 55 = .ok (.iload_n 0, 1) := by decide +kernel
theorem d4_56 : decode method_3_code 56 = .ok (.bipush 9, 2) := by decide +kernel
theorem d4_58 : decode method_3_code 58 = .ok (.if_icmp .eq 31, 3) := by decide +kernel
theorem d4_61 : decode method_3_code 61 = .ok (.iload_n 0, 1) := by decide +kernel
theorem d4_62 : decode method_3_code 62 = .ok (.bipush 10, 2) := by decide +kernel
theorem d4_64 : decode method_3_code 64 = .ok (.if_icmp .eq 25, 3) := by decide +kernel
theorem d4_67 : decode method_3_code 67 = .ok (.iload_n 0, 1) := by decide +kernel
theorem d4_68 : decode method_3_code 68 = .ok (.bipush 13, 2) := by decide +kernel
theorem d4_70 : decode method_3_code 70 = .ok (.if_icmp .eq 19, 3) := by decide +kernel
theorem d4_73 : decode method_3_code 73 = .ok (.iload_n 0, 1) := by decide +kernel
theorem d4_74 : decode method_3_code 74 = .ok (.bipush 32, 2) := by decide +kernel
theorem d4_76 : decode method_3_code 76 = .ok (.if_icmp .lt 9, 3) := by decide +kernel
theorem d4_79 : decode method_3_code 79 = .ok (.iload_n 0, 1) := by decide +kernel
theorem d4_80 : decode method_3_code 80 = .ok (.ldc 7, 2) := by decide +kernel
theorem d4_82 : decode method_3_code 82 = .ok (.if_icmp .le 7, 3) := by decide +kernel
theorem d4_85 : decode method_3_code 85 = .ok (.iload_n 2, 1) := by decide +kernel
theorem d4_86 : decode method_3_code 86 = .ok (.ifCond .eq 7, 3) := by decide +kernel
theorem d4_89 : decode method_3_code 89 = .ok (.iconst 1, 1) := by decide +kernel
theorem d4_90 : decode method_3_code 90 = .ok (.goto 4, 3) := by decide +kernel
theorem d4_93 : decode method_3_code 93 = .ok (.iconst 0, 1) := by decide +kernel
theorem d4_94 : decode method_3_code 94 = .ok (.ireturn, 1) := by decide +kernel
def rmR4 : Room := { frames := 0, cells := 0, slots := 0, locals := 0 }
def f4_85 (x2 : Int32) : Int32 := (if x2 = (0 : Int32) then (0 : Int32) else (1 : Int32))
set_option maxRecDepth 65536 in
set_option maxHeartbeats 40000000 in
theorem b4_85 {p : Program} {l : Launch} {e : Env} {s : State} {m : MethodId} {args : Array Value} {below : List Frame} {meth : Method} {c : Code} {T : State} {locs : List Loc} {Z : State} {a0 : Array Value} {h0 : Heap} {P : Option Value → Heap → List Loc → Prop} (hw : ∀ d ∈ tables_1, d.before a0 Z = true) (C : own_Ctx p s m meth c Z (⟨"com/example/kvasir/kvasir/XmlVersionIsCharPinLaw", "reference", "(IZ)Z"⟩ : MethodName) method_3_code 3 (some .boolean))
    (X : Stand p l e rmR4 s m args below meth c T locs 0 0) (e0 : T.heap = h0) (x0 : Int32) (x1 : Int32) (x2 : Int32) (r : Int32) (hv : f4_85 x2 = r) (hP : P (some (.int r)) h0 locs) :
    own_WP p e below (own_Q s P rmR4.cells rmR4.slots) T (mkF m 85 #[.val (.int x0), .val (.int x1), .val (.int x2)] []) := by
  obtain ⟨hx, hZ, hby, hml, hown, hnm, hret, hlk⟩ := id C
  unfold f4_85 at hv
  show own_WP p e below _ T (mkF m 85 #[.val (.int x0), .val (.int x1), .val (.int x2)] [])
  refine own_go (fun _ => XS.iloadN X.here hx rfl (hb hby d4_85) rfl) ?_
  show own_WP p e below _ T (mkF m 86 #[.val (.int x0), .val (.int x1), .val (.int x2)] [(.int x2)])
  by_cases h86 : x2 = (0 : Int32)
  · replace hv := (if_pos h86).symm.trans hv
    refine own_go (fun _ => XS.ifYes X.here hx rfl (pc0 := 86) (pc' := 93) rfl (hb hby d4_86) rfl (XT.i0_eq_t h86) (by decide) (by decide)) ?_
    show own_WP p e below _ T (mkF m 93 #[.val (.int x0), .val (.int x1), .val (.int x2)] [])
    refine own_go (fun _ => XS.iconst X.here hx rfl (hb hby d4_93)) ?_
    show own_WP p e below _ T (mkF m 94 #[.val (.int x0), .val (.int x1), .val (.int x2)] [(.int (0 : Int32))])
    subst hv e0; exact own_retN X C (by simp) (hb hby d4_94) hP (by decide) (by decide)
  · replace hv := (if_neg h86).symm.trans hv
    refine own_go (fun _ => XS.ifNo X.here hx rfl (hb hby d4_86) rfl (XT.i0_eq_f h86)) ?_
    show own_WP p e below _ T (mkF m 89 #[.val (.int x0), .val (.int x1), .val (.int x2)] [])
    refine own_go (fun _ => XS.iconst X.here hx rfl (hb hby d4_89)) ?_
    show own_WP p e below _ T (mkF m 90 #[.val (.int x0), .val (.int x1), .val (.int x2)] [(.int (1 : Int32))])
    refine own_go (fun _ => XS.goto X.here hx rfl (pc0 := 90) (pc' := 94) rfl (hb hby d4_90) (by decide) (by decide)) ?_
    show own_WP p e below _ T (mkF m 94 #[.val (.int x0), .val (.int x1), .val (.int x2)] [(.int (1 : Int32))])
    subst hv e0; exact own_retN X C (by simp) (hb hby d4_94) hP (by decide) (by decide)
def f4_45 (x2 : Int32) : Int32 := (if x2 = (0 : Int32) then (0 : Int32) else (1 : Int32))
set_option maxRecDepth 65536 in
set_option maxHeartbeats 40000000 in
theorem b4_45 {p : Program} {l : Launch} {e : Env} {s : State} {m : MethodId} {args : Array Value} {below : List Frame} {meth : Method} {c : Code} {T : State} {locs : List Loc} {Z : State} {a0 : Array Value} {h0 : Heap} {P : Option Value → Heap → List Loc → Prop} (hw : ∀ d ∈ tables_1, d.before a0 Z = true) (C : own_Ctx p s m meth c Z (⟨"com/example/kvasir/kvasir/XmlVersionIsCharPinLaw", "reference", "(IZ)Z"⟩ : MethodName) method_3_code 3 (some .boolean))
    (X : Stand p l e rmR4 s m args below meth c T locs 0 0) (e0 : T.heap = h0) (x0 : Int32) (x1 : Int32) (x2 : Int32) (r : Int32) (hv : f4_45 x2 = r) (hP : P (some (.int r)) h0 locs) :
    own_WP p e below (own_Q s P rmR4.cells rmR4.slots) T (mkF m 45 #[.val (.int x0), .val (.int x1), .val (.int x2)] []) := by
  obtain ⟨hx, hZ, hby, hml, hown, hnm, hret, hlk⟩ := id C
  unfold f4_45 at hv
  show own_WP p e below _ T (mkF m 45 #[.val (.int x0), .val (.int x1), .val (.int x2)] [])
  refine own_go (fun _ => XS.iloadN X.here hx rfl (hb hby d4_45) rfl) ?_
  show own_WP p e below _ T (mkF m 46 #[.val (.int x0), .val (.int x1), .val (.int x2)] [(.int x2)])
  by_cases h46 : x2 = (0 : Int32)
  · replace hv := (if_pos h46).symm.trans hv
    refine own_go (fun _ => XS.ifYes X.here hx rfl (pc0 := 46) (pc' := 53) rfl (hb hby d4_46) rfl (XT.i0_eq_t h46) (by decide) (by decide)) ?_
    show own_WP p e below _ T (mkF m 53 #[.val (.int x0), .val (.int x1), .val (.int x2)] [])
    refine own_go (fun _ => XS.iconst X.here hx rfl (hb hby d4_53)) ?_
    show own_WP p e below _ T (mkF m 54 #[.val (.int x0), .val (.int x1), .val (.int x2)] [(.int (0 : Int32))])
    subst hv e0; exact own_retN X C (by simp) (hb hby d4_54) hP (by decide) (by decide)
  · replace hv := (if_neg h46).symm.trans hv
    refine own_go (fun _ => XS.ifNo X.here hx rfl (hb hby d4_46) rfl (XT.i0_eq_f h46)) ?_
    show own_WP p e below _ T (mkF m 49 #[.val (.int x0), .val (.int x1), .val (.int x2)] [])
    refine own_go (fun _ => XS.iconst X.here hx rfl (hb hby d4_49)) ?_
    show own_WP p e below _ T (mkF m 50 #[.val (.int x0), .val (.int x1), .val (.int x2)] [(.int (1 : Int32))])
    refine own_go (fun _ => XS.goto X.here hx rfl (pc0 := 50) (pc' := 54) rfl (hb hby d4_50) (by decide) (by decide)) ?_
    show own_WP p e below _ T (mkF m 54 #[.val (.int x0), .val (.int x1), .val (.int x2)] [(.int (1 : Int32))])
    subst hv e0; exact own_retN X C (by simp) (hb hby d4_54) hP (by decide) (by decide)
def f4_29 (x0 : Int32) (x1 : Int32) (t0 : Int32) : Int32 := (if x1 = (0 : Int32) then (if x0 = (9 : Int32) then (1 : Int32) else (if x0 = (10 : Int32) then (1 : Int32) else (if x0 = (13 : Int32) then (1 : Int32) else (if x0 < (32 : Int32) then (f4_85 t0) else (if (55295 : Int32) < x0 then (f4_85 t0) else (1 : Int32)))))) else (if x0 < (1 : Int32) then (f4_45 t0) else (if (55295 : Int32) < x0 then (f4_45 t0) else (1 : Int32))))
set_option maxRecDepth 65536 in
set_option maxHeartbeats 40000000 in
theorem b4_29 {p : Program} {l : Launch} {e : Env} {s : State} {m : MethodId} {args : Array Value} {below : List Frame} {meth : Method} {c : Code} {T : State} {locs : List Loc} {Z : State} {a0 : Array Value} {h0 : Heap} {P : Option Value → Heap → List Loc → Prop} (hw : ∀ d ∈ tables_1, d.before a0 Z = true) (C : own_Ctx p s m meth c Z (⟨"com/example/kvasir/kvasir/XmlVersionIsCharPinLaw", "reference", "(IZ)Z"⟩ : MethodName) method_3_code 3 (some .boolean))
    (X : Stand p l e rmR4 s m args below meth c T locs 0 0) (e0 : T.heap = h0) (x0 : Int32) (x1 : Int32) (t0 : Int32) (r : Int32) (hv : f4_29 x0 x1 t0 = r) (hP : P (some (.int r)) h0 locs) :
    own_WP p e below (own_Q s P rmR4.cells rmR4.slots) T (mkF m 29 #[.val (.int x0), .val (.int x1), .unset] [(.int t0)]) := by
  obtain ⟨hx, hZ, hby, hml, hown, hnm, hret, hlk⟩ := id C
  unfold f4_29 at hv
  show own_WP p e below _ T (mkF m 29 #[.val (.int x0), .val (.int x1), .unset] [(.int t0)])
  refine own_go (fun _ => XS.istoreN X.here hx rfl (hb hby d4_29) rfl (l' := #[.val (.int x0), .val (.int x1), .val (.int t0)]) rfl) ?_
  show own_WP p e below _ T (mkF m 30 #[.val (.int x0), .val (.int x1), .val (.int t0)] [])
  refine own_go (fun _ => XS.iloadN X.here hx rfl (hb hby d4_30) rfl) ?_
  show own_WP p e below _ T (mkF m 31 #[.val (.int x0), .val (.int x1), .val (.int t0)] [(.int x1)])
  by_cases h31 : x1 = (0 : Int32)
  · replace hv := (if_pos h31).symm.trans hv
    refine own_go (fun _ => XS.ifYes X.here hx rfl (pc0 := 31) (pc' := 55) rfl (hb hby d4_31) rfl (XT.i0_eq_t h31) (by decide) (by decide)) ?_
    show own_WP p e below _ T (mkF m 55 #[.val (.int x0), .val (.int x1), .val (.int t0)] [])
    refine own_go (fun _ => XS.iloadN X.here hx rfl (hb hby d4_55) rfl) ?_
    show own_WP p e below _ T (mkF m 56 #[.val (.int x0), .val (.int x1), .val (.int t0)] [(.int x0)])
    refine own_go (fun _ => XS.bipush X.here hx rfl (hb hby d4_56)) ?_
    show own_WP p e below _ T (mkF m 58 #[.val (.int x0), .val (.int x1), .val (.int t0)] [(.int (9 : Int32)), (.int x0)])
    by_cases h58 : x0 = (9 : Int32)
    · replace hv := (if_pos h58).symm.trans hv
      refine own_go (fun _ => XS.icmpYes X.here hx rfl (pc0 := 58) (pc' := 89) rfl (hb hby d4_58) rfl (XT.ii_eq_t h58) (by decide) (by decide)) ?_
      show own_WP p e below _ T (mkF m 89 #[.val (.int x0), .val (.int x1), .val (.int t0)] [])
      refine own_go (fun _ => XS.iconst X.here hx rfl (hb hby d4_89)) ?_
      show own_WP p e below _ T (mkF m 90 #[.val (.int x0), .val (.int x1), .val (.int t0)] [(.int (1 : Int32))])
      refine own_go (fun _ => XS.goto X.here hx rfl (pc0 := 90) (pc' := 94) rfl (hb hby d4_90) (by decide) (by decide)) ?_
      show own_WP p e below _ T (mkF m 94 #[.val (.int x0), .val (.int x1), .val (.int t0)] [(.int (1 : Int32))])
      subst hv e0; exact own_retN X C (by simp) (hb hby d4_94) hP (by decide) (by decide)
    · replace hv := (if_neg h58).symm.trans hv
      refine own_go (fun _ => XS.icmpNo X.here hx rfl (hb hby d4_58) rfl (XT.ii_eq_f h58)) ?_
      show own_WP p e below _ T (mkF m 61 #[.val (.int x0), .val (.int x1), .val (.int t0)] [])
      refine own_go (fun _ => XS.iloadN X.here hx rfl (hb hby d4_61) rfl) ?_
      show own_WP p e below _ T (mkF m 62 #[.val (.int x0), .val (.int x1), .val (.int t0)] [(.int x0)])
      refine own_go (fun _ => XS.bipush X.here hx rfl (hb hby d4_62)) ?_
      show own_WP p e below _ T (mkF m 64 #[.val (.int x0), .val (.int x1), .val (.int t0)] [(.int (10 : Int32)), (.int x0)])
      by_cases h64 : x0 = (10 : Int32)
      · replace hv := (if_pos h64).symm.trans hv
        refine own_go (fun _ => XS.icmpYes X.here hx rfl (pc0 := 64) (pc' := 89) rfl (hb hby d4_64) rfl (XT.ii_eq_t h64) (by decide) (by decide)) ?_
        show own_WP p e below _ T (mkF m 89 #[.val (.int x0), .val (.int x1), .val (.int t0)] [])
        refine own_go (fun _ => XS.iconst X.here hx rfl (hb hby d4_89)) ?_
        show own_WP p e below _ T (mkF m 90 #[.val (.int x0), .val (.int x1), .val (.int t0)] [(.int (1 : Int32))])
        refine own_go (fun _ => XS.goto X.here hx rfl (pc0 := 90) (pc' := 94) rfl (hb hby d4_90) (by decide) (by decide)) ?_
        show own_WP p e below _ T (mkF m 94 #[.val (.int x0), .val (.int x1), .val (.int t0)] [(.int (1 : Int32))])
        subst hv e0; exact own_retN X C (by simp) (hb hby d4_94) hP (by decide) (by decide)
      · replace hv := (if_neg h64).symm.trans hv
        refine own_go (fun _ => XS.icmpNo X.here hx rfl (hb hby d4_64) rfl (XT.ii_eq_f h64)) ?_
        show own_WP p e below _ T (mkF m 67 #[.val (.int x0), .val (.int x1), .val (.int t0)] [])
        refine own_go (fun _ => XS.iloadN X.here hx rfl (hb hby d4_67) rfl) ?_
        show own_WP p e below _ T (mkF m 68 #[.val (.int x0), .val (.int x1), .val (.int t0)] [(.int x0)])
        refine own_go (fun _ => XS.bipush X.here hx rfl (hb hby d4_68)) ?_
        show own_WP p e below _ T (mkF m 70 #[.val (.int x0), .val (.int x1), .val (.int t0)] [(.int (13 : Int32)), (.int x0)])
        by_cases h70 : x0 = (13 : Int32)
        · replace hv := (if_pos h70).symm.trans hv
          refine own_go (fun _ => XS.icmpYes X.here hx rfl (pc0 := 70) (pc' := 89) rfl (hb hby d4_70) rfl (XT.ii_eq_t h70) (by decide) (by decide)) ?_
          show own_WP p e below _ T (mkF m 89 #[.val (.int x0), .val (.int x1), .val (.int t0)] [])
          refine own_go (fun _ => XS.iconst X.here hx rfl (hb hby d4_89)) ?_
          show own_WP p e below _ T (mkF m 90 #[.val (.int x0), .val (.int x1), .val (.int t0)] [(.int (1 : Int32))])
          refine own_go (fun _ => XS.goto X.here hx rfl (pc0 := 90) (pc' := 94) rfl (hb hby d4_90) (by decide) (by decide)) ?_
          show own_WP p e below _ T (mkF m 94 #[.val (.int x0), .val (.int x1), .val (.int t0)] [(.int (1 : Int32))])
          subst hv e0; exact own_retN X C (by simp) (hb hby d4_94) hP (by decide) (by decide)
        · replace hv := (if_neg h70).symm.trans hv
          refine own_go (fun _ => XS.icmpNo X.here hx rfl (hb hby d4_70) rfl (XT.ii_eq_f h70)) ?_
          show own_WP p e below _ T (mkF m 73 #[.val (.int x0), .val (.int x1), .val (.int t0)] [])
          refine own_go (fun _ => XS.iloadN X.here hx rfl (hb hby d4_73) rfl) ?_
          show own_WP p e below _ T (mkF m 74 #[.val (.int x0), .val (.int x1), .val (.int t0)] [(.int x0)])
          refine own_go (fun _ => XS.bipush X.here hx rfl (hb hby d4_74)) ?_
          show own_WP p e below _ T (mkF m 76 #[.val (.int x0), .val (.int x1), .val (.int t0)] [(.int (32 : Int32)), (.int x0)])
          by_cases h76 : x0 < (32 : Int32)
          · replace hv := (if_pos h76).symm.trans hv
            refine own_go (fun _ => XS.icmpYes X.here hx rfl (pc0 := 76) (pc' := 85) rfl (hb hby d4_76) rfl (XT.ii_lt_t h76) (by decide) (by decide)) ?_
            exact b4_85 hw C X e0 x0 x1 t0 r hv hP
          · replace hv := (if_neg h76).symm.trans hv
            refine own_go (fun _ => XS.icmpNo X.here hx rfl (hb hby d4_76) rfl (XT.ii_lt_f h76)) ?_
            show own_WP p e below _ T (mkF m 79 #[.val (.int x0), .val (.int x1), .val (.int t0)] [])
            refine own_go (fun _ => XS.iloadN X.here hx rfl (hb hby d4_79) rfl) ?_
            show own_WP p e below _ T (mkF m 80 #[.val (.int x0), .val (.int x1), .val (.int t0)] [(.int x0)])
            refine own_go (X.ldcInt hx hown (mvT hZ (hw _ (List.mem_of_getElem? (i := 1) rfl))) (g := (mkF m 80 #[.val (.int x0), .val (.int x1), .val (.int t0)] [(.int x0)])) rfl (hb hby d4_80)) ?_
            show own_WP p e below _ T (mkF m 82 #[.val (.int x0), .val (.int x1), .val (.int t0)] [(.int (55295 : Int32)), (.int x0)])
            by_cases h82 : (55295 : Int32) < x0
            · replace hv := (if_pos h82).symm.trans hv
              refine own_go (fun _ => XS.icmpNo X.here hx rfl (hb hby d4_82) rfl (XT.ii_le_f h82)) ?_
              exact b4_85 hw C X e0 x0 x1 t0 r hv hP
            · replace hv := (if_neg h82).symm.trans hv
              refine own_go (fun _ => XS.icmpYes X.here hx rfl (pc0 := 82) (pc' := 89) rfl (hb hby d4_82) rfl (XT.ii_le_t h82) (by decide) (by decide)) ?_
              show own_WP p e below _ T (mkF m 89 #[.val (.int x0), .val (.int x1), .val (.int t0)] [])
              refine own_go (fun _ => XS.iconst X.here hx rfl (hb hby d4_89)) ?_
              show own_WP p e below _ T (mkF m 90 #[.val (.int x0), .val (.int x1), .val (.int t0)] [(.int (1 : Int32))])
              refine own_go (fun _ => XS.goto X.here hx rfl (pc0 := 90) (pc' := 94) rfl (hb hby d4_90) (by decide) (by decide)) ?_
              show own_WP p e below _ T (mkF m 94 #[.val (.int x0), .val (.int x1), .val (.int t0)] [(.int (1 : Int32))])
              subst hv e0; exact own_retN X C (by simp) (hb hby d4_94) hP (by decide) (by decide)
  · replace hv := (if_neg h31).symm.trans hv
    refine own_go (fun _ => XS.ifNo X.here hx rfl (hb hby d4_31) rfl (XT.i0_eq_f h31)) ?_
    show own_WP p e below _ T (mkF m 34 #[.val (.int x0), .val (.int x1), .val (.int t0)] [])
    refine own_go (fun _ => XS.iloadN X.here hx rfl (hb hby d4_34) rfl) ?_
    show own_WP p e below _ T (mkF m 35 #[.val (.int x0), .val (.int x1), .val (.int t0)] [(.int x0)])
    refine own_go (fun _ => XS.iconst X.here hx rfl (hb hby d4_35)) ?_
    show own_WP p e below _ T (mkF m 36 #[.val (.int x0), .val (.int x1), .val (.int t0)] [(.int (1 : Int32)), (.int x0)])
    by_cases h36 : x0 < (1 : Int32)
    · replace hv := (if_pos h36).symm.trans hv
      refine own_go (fun _ => XS.icmpYes X.here hx rfl (pc0 := 36) (pc' := 45) rfl (hb hby d4_36) rfl (XT.ii_lt_t h36) (by decide) (by decide)) ?_
      exact b4_45 hw C X e0 x0 x1 t0 r hv hP
    · replace hv := (if_neg h36).symm.trans hv
      refine own_go (fun _ => XS.icmpNo X.here hx rfl (hb hby d4_36) rfl (XT.ii_lt_f h36)) ?_
      show own_WP p e below _ T (mkF m 39 #[.val (.int x0), .val (.int x1), .val (.int t0)] [])
      refine own_go (fun _ => XS.iloadN X.here hx rfl (hb hby d4_39) rfl) ?_
      show own_WP p e below _ T (mkF m 40 #[.val (.int x0), .val (.int x1), .val (.int t0)] [(.int x0)])
      refine own_go (X.ldcInt hx hown (mvT hZ (hw _ (List.mem_of_getElem? (i := 1) rfl))) (g := (mkF m 40 #[.val (.int x0), .val (.int x1), .val (.int t0)] [(.int x0)])) rfl (hb hby d4_40)) ?_
      show own_WP p e below _ T (mkF m 42 #[.val (.int x0), .val (.int x1), .val (.int t0)] [(.int (55295 : Int32)), (.int x0)])
      by_cases h42 : (55295 : Int32) < x0
      · replace hv := (if_pos h42).symm.trans hv
        refine own_go (fun _ => XS.icmpNo X.here hx rfl (hb hby d4_42) rfl (XT.ii_le_f h42)) ?_
        exact b4_45 hw C X e0 x0 x1 t0 r hv hP
      · replace hv := (if_neg h42).symm.trans hv
        refine own_go (fun _ => XS.icmpYes X.here hx rfl (pc0 := 42) (pc' := 49) rfl (hb hby d4_42) rfl (XT.ii_le_t h42) (by decide) (by decide)) ?_
        show own_WP p e below _ T (mkF m 49 #[.val (.int x0), .val (.int x1), .val (.int t0)] [])
        refine own_go (fun _ => XS.iconst X.here hx rfl (hb hby d4_49)) ?_
        show own_WP p e below _ T (mkF m 50 #[.val (.int x0), .val (.int x1), .val (.int t0)] [(.int (1 : Int32))])
        refine own_go (fun _ => XS.goto X.here hx rfl (pc0 := 50) (pc' := 54) rfl (hb hby d4_50) (by decide) (by decide)) ?_
        show own_WP p e below _ T (mkF m 54 #[.val (.int x0), .val (.int x1), .val (.int t0)] [(.int (1 : Int32))])
        subst hv e0; exact own_retN X C (by simp) (hb hby d4_54) hP (by decide) (by decide)
def f4_28 (x0 : Int32) (x1 : Int32) : Int32 := (f4_29 x0 x1 (0 : Int32))
set_option maxRecDepth 65536 in
set_option maxHeartbeats 40000000 in
theorem b4_28 {p : Program} {l : Launch} {e : Env} {s : State} {m : MethodId} {args : Array Value} {below : List Frame} {meth : Method} {c : Code} {T : State} {locs : List Loc} {Z : State} {a0 : Array Value} {h0 : Heap} {P : Option Value → Heap → List Loc → Prop} (hw : ∀ d ∈ tables_1, d.before a0 Z = true) (C : own_Ctx p s m meth c Z (⟨"com/example/kvasir/kvasir/XmlVersionIsCharPinLaw", "reference", "(IZ)Z"⟩ : MethodName) method_3_code 3 (some .boolean))
    (X : Stand p l e rmR4 s m args below meth c T locs 0 0) (e0 : T.heap = h0) (x0 : Int32) (x1 : Int32) (r : Int32) (hv : f4_28 x0 x1 = r) (hP : P (some (.int r)) h0 locs) :
    own_WP p e below (own_Q s P rmR4.cells rmR4.slots) T (mkF m 28 #[.val (.int x0), .val (.int x1), .unset] []) := by
  obtain ⟨hx, hZ, hby, hml, hown, hnm, hret, hlk⟩ := id C
  unfold f4_28 at hv
  show own_WP p e below _ T (mkF m 28 #[.val (.int x0), .val (.int x1), .unset] [])
  refine own_go (fun _ => XS.iconst X.here hx rfl (hb hby d4_28)) ?_
  exact b4_29 hw C X e0 x0 x1 (0 : Int32) r hv hP
def f4_24 (x0 : Int32) (x1 : Int32) : Int32 := (f4_29 x0 x1 (1 : Int32))
set_option maxRecDepth 65536 in
set_option maxHeartbeats 40000000 in
theorem b4_24 {p : Program} {l : Launch} {e : Env} {s : State} {m : MethodId} {args : Array Value} {below : List Frame} {meth : Method} {c : Code} {T : State} {locs : List Loc} {Z : State} {a0 : Array Value} {h0 : Heap} {P : Option Value → Heap → List Loc → Prop} (hw : ∀ d ∈ tables_1, d.before a0 Z = true) (C : own_Ctx p s m meth c Z (⟨"com/example/kvasir/kvasir/XmlVersionIsCharPinLaw", "reference", "(IZ)Z"⟩ : MethodName) method_3_code 3 (some .boolean))
    (X : Stand p l e rmR4 s m args below meth c T locs 0 0) (e0 : T.heap = h0) (x0 : Int32) (x1 : Int32) (r : Int32) (hv : f4_24 x0 x1 = r) (hP : P (some (.int r)) h0 locs) :
    own_WP p e below (own_Q s P rmR4.cells rmR4.slots) T (mkF m 24 #[.val (.int x0), .val (.int x1), .unset] []) := by
  obtain ⟨hx, hZ, hby, hml, hown, hnm, hret, hlk⟩ := id C
  unfold f4_24 at hv
  show own_WP p e below _ T (mkF m 24 #[.val (.int x0), .val (.int x1), .unset] [])
  refine own_go (fun _ => XS.iconst X.here hx rfl (hb hby d4_24)) ?_
  show own_WP p e below _ T (mkF m 25 #[.val (.int x0), .val (.int x1), .unset] [(.int (1 : Int32))])
  refine own_go (fun _ => XS.goto X.here hx rfl (pc0 := 25) (pc' := 29) rfl (hb hby d4_25) (by decide) (by decide)) ?_
  exact b4_29 hw C X e0 x0 x1 (1 : Int32) r hv hP
def f4_12 (x0 : Int32) (x1 : Int32) : Int32 := (if x0 < (65536 : Int32) then (f4_28 x0 x1) else (if (1114111 : Int32) < x0 then (f4_28 x0 x1) else (f4_24 x0 x1)))
set_option maxRecDepth 65536 in
set_option maxHeartbeats 40000000 in
theorem b4_12 {p : Program} {l : Launch} {e : Env} {s : State} {m : MethodId} {args : Array Value} {below : List Frame} {meth : Method} {c : Code} {T : State} {locs : List Loc} {Z : State} {a0 : Array Value} {h0 : Heap} {P : Option Value → Heap → List Loc → Prop} (hw : ∀ d ∈ tables_1, d.before a0 Z = true) (C : own_Ctx p s m meth c Z (⟨"com/example/kvasir/kvasir/XmlVersionIsCharPinLaw", "reference", "(IZ)Z"⟩ : MethodName) method_3_code 3 (some .boolean))
    (X : Stand p l e rmR4 s m args below meth c T locs 0 0) (e0 : T.heap = h0) (x0 : Int32) (x1 : Int32) (r : Int32) (hv : f4_12 x0 x1 = r) (hP : P (some (.int r)) h0 locs) :
    own_WP p e below (own_Q s P rmR4.cells rmR4.slots) T (mkF m 12 #[.val (.int x0), .val (.int x1), .unset] []) := by
  obtain ⟨hx, hZ, hby, hml, hown, hnm, hret, hlk⟩ := id C
  unfold f4_12 at hv
  show own_WP p e below _ T (mkF m 12 #[.val (.int x0), .val (.int x1), .unset] [])
  refine own_go (fun _ => XS.iloadN X.here hx rfl (hb hby d4_12) rfl) ?_
  show own_WP p e below _ T (mkF m 13 #[.val (.int x0), .val (.int x1), .unset] [(.int x0)])
  refine own_go (X.ldcInt hx hown (mvT hZ (hw _ (List.mem_of_getElem? (i := 4) rfl))) (g := (mkF m 13 #[.val (.int x0), .val (.int x1), .unset] [(.int x0)])) rfl (hb hby d4_13)) ?_
  show own_WP p e below _ T (mkF m 15 #[.val (.int x0), .val (.int x1), .unset] [(.int (65536 : Int32)), (.int x0)])
  by_cases h15 : x0 < (65536 : Int32)
  · replace hv := (if_pos h15).symm.trans hv
    refine own_go (fun _ => XS.icmpYes X.here hx rfl (pc0 := 15) (pc' := 28) rfl (hb hby d4_15) rfl (XT.ii_lt_t h15) (by decide) (by decide)) ?_
    exact b4_28 hw C X e0 x0 x1 r hv hP
  · replace hv := (if_neg h15).symm.trans hv
    refine own_go (fun _ => XS.icmpNo X.here hx rfl (hb hby d4_15) rfl (XT.ii_lt_f h15)) ?_
    show own_WP p e below _ T (mkF m 18 #[.val (.int x0), .val (.int x1), .unset] [])
    refine own_go (fun _ => XS.iloadN X.here hx rfl (hb hby d4_18) rfl) ?_
    show own_WP p e below _ T (mkF m 19 #[.val (.int x0), .val (.int x1), .unset] [(.int x0)])
    refine own_go (X.ldcInt hx hown (mvT hZ (hw _ (List.mem_of_getElem? (i := 5) rfl))) (g := (mkF m 19 #[.val (.int x0), .val (.int x1), .unset] [(.int x0)])) rfl (hb hby d4_19)) ?_
    show own_WP p e below _ T (mkF m 21 #[.val (.int x0), .val (.int x1), .unset] [(.int (1114111 : Int32)), (.int x0)])
    by_cases h21 : (1114111 : Int32) < x0
    · replace hv := (if_pos h21).symm.trans hv
      refine own_go (fun _ => XS.icmpYes X.here hx rfl (pc0 := 21) (pc' := 28) rfl (hb hby d4_21) rfl (XT.ii_gt_t h21) (by decide) (by decide)) ?_
      exact b4_28 hw C X e0 x0 x1 r hv hP
    · replace hv := (if_neg h21).symm.trans hv
      refine own_go (fun _ => XS.icmpNo X.here hx rfl (hb hby d4_21) rfl (XT.ii_gt_f h21)) ?_
      exact b4_24 hw C X e0 x0 x1 r hv hP
def f4_0 (x0 : Int32) (x1 : Int32) : Int32 := (if x0 < (57344 : Int32) then (f4_12 x0 x1) else (if (65533 : Int32) < x0 then (f4_12 x0 x1) else (f4_24 x0 x1)))
set_option maxRecDepth 65536 in
set_option maxHeartbeats 40000000 in
theorem b4_0 {p : Program} {l : Launch} {e : Env} {s : State} {m : MethodId} {args : Array Value} {below : List Frame} {meth : Method} {c : Code} {T : State} {locs : List Loc} {Z : State} {a0 : Array Value} {h0 : Heap} {P : Option Value → Heap → List Loc → Prop} (hw : ∀ d ∈ tables_1, d.before a0 Z = true) (C : own_Ctx p s m meth c Z (⟨"com/example/kvasir/kvasir/XmlVersionIsCharPinLaw", "reference", "(IZ)Z"⟩ : MethodName) method_3_code 3 (some .boolean))
    (X : Stand p l e rmR4 s m args below meth c T locs 0 0) (e0 : T.heap = h0) (x0 : Int32) (x1 : Int32) (r : Int32) (hv : f4_0 x0 x1 = r) (hP : P (some (.int r)) h0 locs) :
    own_WP p e below (own_Q s P rmR4.cells rmR4.slots) T (mkF m 0 #[.val (.int x0), .val (.int x1), .unset] []) := by
  obtain ⟨hx, hZ, hby, hml, hown, hnm, hret, hlk⟩ := id C
  unfold f4_0 at hv
  show own_WP p e below _ T (mkF m 0 #[.val (.int x0), .val (.int x1), .unset] [])
  refine own_go (fun _ => XS.iloadN X.here hx rfl (hb hby d4_0) rfl) ?_
  show own_WP p e below _ T (mkF m 1 #[.val (.int x0), .val (.int x1), .unset] [(.int x0)])
  refine own_go (X.ldcInt hx hown (mvT hZ (hw _ (List.mem_of_getElem? (i := 2) rfl))) (g := (mkF m 1 #[.val (.int x0), .val (.int x1), .unset] [(.int x0)])) rfl (hb hby d4_1)) ?_
  show own_WP p e below _ T (mkF m 3 #[.val (.int x0), .val (.int x1), .unset] [(.int (57344 : Int32)), (.int x0)])
  by_cases h3 : x0 < (57344 : Int32)
  · replace hv := (if_pos h3).symm.trans hv
    refine own_go (fun _ => XS.icmpYes X.here hx rfl (pc0 := 3) (pc' := 12) rfl (hb hby d4_3) rfl (XT.ii_lt_t h3) (by decide) (by decide)) ?_
    exact b4_12 hw C X e0 x0 x1 r hv hP
  · replace hv := (if_neg h3).symm.trans hv
    refine own_go (fun _ => XS.icmpNo X.here hx rfl (hb hby d4_3) rfl (XT.ii_lt_f h3)) ?_
    show own_WP p e below _ T (mkF m 6 #[.val (.int x0), .val (.int x1), .unset] [])
    refine own_go (fun _ => XS.iloadN X.here hx rfl (hb hby d4_6) rfl) ?_
    show own_WP p e below _ T (mkF m 7 #[.val (.int x0), .val (.int x1), .unset] [(.int x0)])
    refine own_go (X.ldcInt hx hown (mvT hZ (hw _ (List.mem_of_getElem? (i := 3) rfl))) (g := (mkF m 7 #[.val (.int x0), .val (.int x1), .unset] [(.int x0)])) rfl (hb hby d4_7)) ?_
    show own_WP p e below _ T (mkF m 9 #[.val (.int x0), .val (.int x1), .unset] [(.int (65533 : Int32)), (.int x0)])
    by_cases h9 : (65533 : Int32) < x0
    · replace hv := (if_pos h9).symm.trans hv
      refine own_go (fun _ => XS.icmpNo X.here hx rfl (hb hby d4_9) rfl (XT.ii_le_f h9)) ?_
      exact b4_12 hw C X e0 x0 x1 r hv hP
    · replace hv := (if_neg h9).symm.trans hv
      refine own_go (fun _ => XS.icmpYes X.here hx rfl (pc0 := 9) (pc' := 24) rfl (hb hby d4_9) rfl (XT.ii_le_t h9) (by decide) (by decide)) ?_
      exact b4_24 hw C X e0 x0 x1 r hv hP
theorem ef4 (m : MethodId) (x0 : Int32) (x1 : Int32) : entryFrame m #[(.int x0), (.int x1)] 3 = (mkF m 0 #[.val (.int x0), .val (.int x1), .unset] []) := by first | (simp [entryFrame, mkF, argsToLocals, Value.category]; done) | rfl
theorem pd4 : parseMethodDescriptor "(IZ)Z" = some ⟨[.int, .boolean], some .boolean⟩ := by decide +kernel
theorem pn4 : plainFor (⟨"com/example/kvasir/kvasir/XmlVersionIsCharPinLaw", "reference", "(IZ)Z"⟩ : MethodName) = true := plainFor_of_name (by first | (simp [plainName, overriddenIn]; done) | decide +kernel)
theorem rm4 (l : Launch) (Z : State) (a0 : Array Value) (hw : ∀ d ∈ tables_1, d.before a0 Z = true) (x0 : Int32) (x1 : Int32) (h0 : Heap) : own_Met l Z (⟨"com/example/kvasir/kvasir/XmlVersionIsCharPinLaw", "reference", "(IZ)Z"⟩ : MethodName) method_3_code 3 (some .boolean) [] rmR4 #[(.int x0), (.int x1)] h0 (fun v h L => v = some (.int (f4_0 x0 x1)) ∧ L = [] ∧ h = h0) := by
  refine own_body pn4 ?_
  intro p e s m below meth c s₁ C X e0
  exact own_cast (ef4 m x0 x1) (b4_0 hw C X e0 x0 x1 _ rfl ⟨rfl, rfl, rfl⟩)
def E0 (Z : State) (h0 : Heap)   (rr : Int32) (v : Option Value) (h : Heap) : Prop := v = some (.int rr)
def f0_23 (x0 : Int32) (x1 : Int32) (x3 : Int32) (t0 : Int32) : Option (Int32) := (if t0 = (0 : Int32) then (own_let ((x1 &&& (2147483647 : Int32)) % (1114112 : Int32)) fun y1 => (if (f3_0 y1 x3) = (f4_0 y1 x3) then (some (1 : Int32)) else (some (0 : Int32)))) else ((own_get [(0 : Int32), (1 : Int32), (9 : Int32), (10 : Int32), (13 : Int32), (31 : Int32), (32 : Int32), (55295 : Int32), (57344 : Int32), (65533 : Int32), (65536 : Int32), (1114111 : Int32)] ((x0 &&& (2147483647 : Int32)) % (12 : Int32))).bind fun w17 => (own_let (f2_0 (0 : Int32) (f1_0 (1114111 : Int32) (w17 + (x1 % (3 : Int32))))) fun y20 => (if (f3_0 y20 x3) = (f4_0 y20 x3) then (some (1 : Int32)) else (some (0 : Int32))))))
set_option maxRecDepth 65536 in
set_option maxHeartbeats 40000000 in
theorem b0_23 {p : Program} {l : Launch} {e : Env} {s : State} {m : MethodId} {args : Array Value} {below : List Frame} {meth : Method} {c : Code} {Z : State} {a0 : Array Value} {h0 : Heap} {n0 : Nat} {P : Option Value → Heap → List Loc → Prop} (hw : ∀ d ∈ tables_1, d.before a0 Z = true) (C : own_Ctx p s m meth c Z x code maxLocals ret) (Z0 : n0 ≤ h0.size)   (rr : Int32) (hP : ∀ v h L, Fr n0 L → Keep h0 h [] → E0 Z h0  rr v h → P v h L)
    {T : State} {locs : List Loc} {h : Heap} (X : Stand p l e room_1 s m args below meth c T locs 0 0) (e0 : T.heap = h) (N : Fr n0 locs) (K : Keep h0 h []) (x0 : Int32) (x1 : Int32) (x2 : Int32) (x3 : Int32) (t0 : Int32) (hv : f0_23 x0 x1 x3 t0 = some rr) :
    own_WP p e below (own_Q s P room_1.cells room_1.slots) T (mkF m 23 #[.val (.int x0), .val (.int x1), .val (.int x2), .val (.int x3), .unset, .unset, .unset, .unset, .unset] [(.int t0)]) := by
  obtain ⟨hx, hZ, hby, hml, hown, hnm, hret, hlk⟩ := id C
  replace hown : s.vm.findClass "com/example/kvasir/kvasir/XmlVersionIsCharPinLaw" = some m.cls := hown
  unfold f0_23 at hv
  show own_WP p e below _ T (mkF m 23 #[.val (.int x0), .val (.int x1), .val (.int x2), .val (.int x3), .unset, .unset, .unset, .unset, .unset] [(.int t0)])
  refine own_go (fun _ => XS.istore X.here hx rfl (hb hby at_23) rfl (l' := #[.val (.int x0), .val (.int x1), .val (.int x2), .val (.int x3), .val (.int t0), .unset, .unset, .unset, .unset]) rfl) ?_
  show own_WP p e below _ T (mkF m 25 #[.val (.int x0), .val (.int x1), .val (.int x2), .val (.int x3), .val (.int t0), .unset, .unset, .unset, .unset] [])
  refine own_go (fun _ => XS.iload X.here hx rfl (hb hby at_25) rfl) ?_
  show own_WP p e below _ T (mkF m 27 #[.val (.int x0), .val (.int x1), .val (.int x2), .val (.int x3), .val (.int t0), .unset, .unset, .unset, .unset] [(.int t0)])
  by_cases h27 : t0 = (0 : Int32)
  · replace hv := (if_pos h27).symm.trans hv
    refine own_go (fun _ => XS.ifYes X.here hx rfl (pc0 := 27) (pc' := 136) rfl (hb hby at_27) rfl (XT.i0_eq_t h27) (by decide) (by decide)) ?_
    show own_WP p e below _ T (mkF m 136 #[.val (.int x0), .val (.int x1), .val (.int x2), .val (.int x3), .val (.int t0), .unset, .unset, .unset, .unset] [])
    refine own_go (fun _ => XS.iloadN X.here hx rfl (hb hby at_136) rfl) ?_
    show own_WP p e below _ T (mkF m 137 #[.val (.int x0), .val (.int x1), .val (.int x2), .val (.int x3), .val (.int t0), .unset, .unset, .unset, .unset] [(.int x1)])
    refine own_go (X.ldcInt hx hown (mvT hZ (hw _ (List.mem_of_getElem? (i := 6) rfl))) (g := (mkF m 137 #[.val (.int x0), .val (.int x1), .val (.int x2), .val (.int x3), .val (.int t0), .unset, .unset, .unset, .unset] [(.int x1)])) rfl (hb hby at_137)) ?_
    show own_WP p e below _ T (mkF m 139 #[.val (.int x0), .val (.int x1), .val (.int x2), .val (.int x3), .val (.int t0), .unset, .unset, .unset, .unset] [(.int (2147483647 : Int32)), (.int x1)])
    refine own_go (fun _ => XS.iand X.here hx rfl (hb hby at_139) rfl) ?_
    show own_WP p e below _ T (mkF m 140 #[.val (.int x0), .val (.int x1), .val (.int x2), .val (.int x3), .val (.int t0), .unset, .unset, .unset, .unset] [(.int (x1 &&& (2147483647 : Int32)))])
    refine own_go (X.ldcInt hx hown (mvT hZ (hw _ (List.mem_of_getElem? (i := 25) rfl))) (g := (mkF m 140 #[.val (.int x0), .val (.int x1), .val (.int x2), .val (.int x3), .val (.int t0), .unset, .unset, .unset, .unset] [(.int (x1 &&& (2147483647 : Int32)))])) rfl (hb hby at_140)) ?_
    show own_WP p e below _ T (mkF m 142 #[.val (.int x0), .val (.int x1), .val (.int x2), .val (.int x3), .val (.int t0), .unset, .unset, .unset, .unset] [(.int (1114112 : Int32)), (.int (x1 &&& (2147483647 : Int32)))])
    refine own_go (fun _ => iremM X hx rfl (hb hby at_142) rfl (by decide)) ?_
    show own_WP p e below _ T (mkF m 143 #[.val (.int x0), .val (.int x1), .val (.int x2), .val (.int x3), .val (.int t0), .unset, .unset, .unset, .unset] [(.int ((x1 &&& (2147483647 : Int32)) % (1114112 : Int32)))])
    generalize ((x1 &&& (2147483647 : Int32)) % (1114112 : Int32)) = y1 at hv ⊢
    replace hv := own_letE hv
    show own_WP p e below _ T (mkF m 143 #[.val (.int x0), .val (.int x1), .val (.int x2), .val (.int x3), .val (.int t0), .unset, .unset, .unset, .unset] [(.int y1)])
    refine own_go (fun _ => XS.istore X.here hx rfl (hb hby at_143) rfl (l' := #[.val (.int x0), .val (.int x1), .val (.int x2), .val (.int x3), .val (.int t0), .val (.int y1), .unset, .unset, .unset]) rfl) ?_
    show own_WP p e below _ T (mkF m 145 #[.val (.int x0), .val (.int x1), .val (.int x2), .val (.int x3), .val (.int t0), .val (.int y1), .unset, .unset, .unset] [])
    refine own_go (fun _ => XS.iload X.here hx rfl (hb hby at_145) rfl) ?_
    show own_WP p e below _ T (mkF m 147 #[.val (.int x0), .val (.int x1), .val (.int x2), .val (.int x3), .val (.int t0), .val (.int y1), .unset, .unset, .unset] [(.int y1)])
    refine own_go (fun _ => XS.iloadN X.here hx rfl (hb hby at_147) rfl) ?_
    show own_WP p e below _ T (mkF m 148 #[.val (.int x0), .val (.int x1), .val (.int x2), .val (.int x3), .val (.int t0), .val (.int y1), .unset, .unset, .unset] [(.int x3), (.int y1)])
    obtain ⟨T2, v2, L2, X2, ⟨rfl, rfl, e2⟩, st2⟩ := own_callS X C (rm3 l Z a0 hw y1 x3 h) (hw _ (List.mem_of_getElem? (i := 14) rfl)) (hw _ (List.mem_of_getElem? (i := 15) rfl)) (hw _ (List.mem_of_getElem? (i := 16) rfl)) (hw _ (List.mem_of_getElem? (i := 17) rfl)) (by decide) e0 (W := 0) (pc := 148) (Ls := #[.val (.int x0), .val (.int x1), .val (.int x2), .val (.int x3), .val (.int t0), .val (.int y1), .unset, .unset, .unset]) rfl (lenOf pd3 rfl) (rest := []) (stk := [(.int x3), (.int y1)]) rfl (Nat.le_of_ble_eq_true rfl) (hb hby at_148) (by decide) (by decide) (by decide) (by decide)
    rw [List.append_nil] at X2
    refine own_go st2 ?_
    show own_WP p e below _ T2 (mkF m 151 #[.val (.int x0), .val (.int x1), .val (.int x2), .val (.int x3), .val (.int t0), .val (.int y1), .unset, .unset, .unset] [(.int (f3_0 y1 x3))])
    refine own_go (fun _ => XS.istore X2.here hx rfl (hb hby at_151) rfl (l' := #[.val (.int x0), .val (.int x1), .val (.int x2), .val (.int x3), .val (.int t0), .val (.int y1), .val (.int (f3_0 y1 x3)), .unset, .unset]) rfl) ?_
    show own_WP p e below _ T2 (mkF m 153 #[.val (.int x0), .val (.int x1), .val (.int x2), .val (.int x3), .val (.int t0), .val (.int y1), .val (.int (f3_0 y1 x3)), .unset, .unset] [])
    refine own_go (fun _ => XS.iload X2.here hx rfl (hb hby at_153) rfl) ?_
    show own_WP p e below _ T2 (mkF m 155 #[.val (.int x0), .val (.int x1), .val (.int x2), .val (.int x3), .val (.int t0), .val (.int y1), .val (.int (f3_0 y1 x3)), .unset, .unset] [(.int (f3_0 y1 x3))])
    refine own_go (fun _ => XS.iload X2.here hx rfl (hb hby at_155) rfl) ?_
    show own_WP p e below _ T2 (mkF m 157 #[.val (.int x0), .val (.int x1), .val (.int x2), .val (.int x3), .val (.int t0), .val (.int y1), .val (.int (f3_0 y1 x3)), .unset, .unset] [(.int y1), (.int (f3_0 y1 x3))])
    refine own_go (fun _ => XS.iloadN X2.here hx rfl (hb hby at_157) rfl) ?_
    show own_WP p e below _ T2 (mkF m 158 #[.val (.int x0), .val (.int x1), .val (.int x2), .val (.int x3), .val (.int t0), .val (.int y1), .val (.int (f3_0 y1 x3)), .unset, .unset] [(.int x3), (.int y1), (.int (f3_0 y1 x3))])
    obtain ⟨T3, v3, L3, X3, ⟨rfl, rfl, e3⟩, st3⟩ := own_callS X2 C (rm4 l Z a0 hw y1 x3 h) (hw _ (List.mem_of_getElem? (i := 18) rfl)) (hw _ (List.mem_of_getElem? (i := 19) rfl)) (hw _ (List.mem_of_getElem? (i := 20) rfl)) (hw _ (List.mem_of_getElem? (i := 21) rfl)) (by decide) e2 (W := 1) (pc := 158) (Ls := #[.val (.int x0), .val (.int x1), .val (.int x2), .val (.int x3), .val (.int t0), .val (.int y1), .val (.int (f3_0 y1 x3)), .unset, .unset]) rfl (lenOf pd4 rfl) (rest := [(.int (f3_0 y1 x3))]) (stk := [(.int x3), (.int y1), (.int (f3_0 y1 x3))]) rfl (Nat.le_of_ble_eq_true rfl) (hb hby at_158) (by decide) (by decide) (by decide) (by decide)
    rw [List.append_nil] at X3
    refine own_go st3 ?_
    show own_WP p e below _ T3 (mkF m 161 #[.val (.int x0), .val (.int x1), .val (.int x2), .val (.int x3), .val (.int t0), .val (.int y1), .val (.int (f3_0 y1 x3)), .unset, .unset] [(.int (f4_0 y1 x3)), (.int (f3_0 y1 x3))])
    by_cases h161 : (f3_0 y1 x3) = (f4_0 y1 x3)
    · replace hv := (if_pos h161).symm.trans hv
      refine own_go (fun _ => XS.icmpNo X3.here hx rfl (hb hby at_161) rfl (XT.ii_ne_f h161)) ?_
      show own_WP p e below _ T3 (mkF m 164 #[.val (.int x0), .val (.int x1), .val (.int x2), .val (.int x3), .val (.int t0), .val (.int y1), .val (.int (f3_0 y1 x3)), .unset, .unset] [])
      refine own_go (fun _ => XS.iconst X3.here hx rfl (hb hby at_164)) ?_
      show own_WP p e below _ T3 (mkF m 165 #[.val (.int x0), .val (.int x1), .val (.int x2), .val (.int x3), .val (.int t0), .val (.int y1), .val (.int (f3_0 y1 x3)), .unset, .unset] [(.int (1 : Int32))])
      refine own_go (fun _ => XS.goto X3.here hx rfl (pc0 := 165) (pc' := 169) rfl (hb hby at_165) (by decide) (by decide)) ?_
      show own_WP p e below _ T3 (mkF m 169 #[.val (.int x0), .val (.int x1), .val (.int x2), .val (.int x3), .val (.int t0), .val (.int y1), .val (.int (f3_0 y1 x3)), .unset, .unset] [(.int (1 : Int32))])
      obtain rfl := Option.some.inj hv
      exact own_retN X3 C (by simp) (hb hby at_169) (by rw [e3]; exact hP _ _ _ N K rfl) (by decide) (by decide)
    · replace hv := (if_neg h161).symm.trans hv
      refine own_go (fun _ => XS.icmpYes X3.here hx rfl (pc0 := 161) (pc' := 168) rfl (hb hby at_161) rfl (XT.ii_ne_t h161) (by decide) (by decide)) ?_
      show own_WP p e below _ T3 (mkF m 168 #[.val (.int x0), .val (.int x1), .val (.int x2), .val (.int x3), .val (.int t0), .val (.int y1), .val (.int (f3_0 y1 x3)), .unset, .unset] [])
      refine own_go (fun _ => XS.iconst X3.here hx rfl (hb hby at_168)) ?_
      show own_WP p e below _ T3 (mkF m 169 #[.val (.int x0), .val (.int x1), .val (.int x2), .val (.int x3), .val (.int t0), .val (.int y1), .val (.int (f3_0 y1 x3)), .unset, .unset] [(.int (0 : Int32))])
      obtain rfl := Option.some.inj hv
      exact own_retN X3 C (by simp) (hb hby at_169) (by rw [e3]; exact hP _ _ _ N K rfl) (by decide) (by decide)
  · replace hv := (if_neg h27).symm.trans hv
    refine own_go (fun _ => XS.ifNo X.here hx rfl (hb hby at_27) rfl (XT.i0_eq_f h27)) ?_
    show own_WP p e below _ T (mkF m 30 #[.val (.int x0), .val (.int x1), .val (.int x2), .val (.int x3), .val (.int t0), .unset, .unset, .unset, .unset] [])
    refine own_go (fun _ => XS.bipush X.here hx rfl (hb hby at_30)) ?_
    show own_WP p e below _ T (mkF m 32 #[.val (.int x0), .val (.int x1), .val (.int x2), .val (.int x3), .val (.int t0), .unset, .unset, .unset, .unset] [(.int (12 : Int32))])
    obtain ⟨T4, h4, b32, X4, e4, E4, hb_b32, V_b32, st4⟩ := own_newI X C e0 (aty := .int) (ty := .int) rfl rfl rfl (hw _ (List.mem_of_getElem? (i := 0) rfl)) (n := (12 : Int32)) (by decide) (cap := 12) (by decide) (by decide) (by decide) (by decide) (pc := 32) (Ls := #[.val (.int x0), .val (.int x1), .val (.int x2), .val (.int x3), .val (.int t0), .unset, .unset, .unset, .unset]) (rest := []) (hb hby at_32)
    refine own_go st4 ?_
    have g_b32 : n0 ≤ b32 := by have q := K.1; omega
    have z_b32 : h0.size ≤ b32 := by have q := K.1; omega
    replace K := K.ext E4
    replace V_b32 : own_AI Z h4 b32 .int [0, 0, 0, 0, 0, 0, 0, 0, 0, 0, 0, 0] := V_b32
    show own_WP p e below _ T4 (mkF m 34 #[.val (.int x0), .val (.int x1), .val (.int x2), .val (.int x3), .val (.int t0), .unset, .unset, .unset, .unset] [(.ref b32)])
    refine own_go (fun _ => XS.dup X4.here hx rfl (hb hby at_34) rfl rfl) ?_
    show own_WP p e below _ T4 (mkF m 35 #[.val (.int x0), .val (.int x1), .val (.int x2), .val (.int x3), .val (.int t0), .unset, .unset, .unset, .unset] [(.ref b32), (.ref b32)])
    refine own_go (fun _ => XS.iconst X4.here hx rfl (hb hby at_35)) ?_
    show own_WP p e below _ T4 (mkF m 36 #[.val (.int x0), .val (.int x1), .val (.int x2), .val (.int x3), .val (.int t0), .unset, .unset, .unset, .unset] [(.int (0 : Int32)), (.ref b32), (.ref b32)])
    refine own_go (fun _ => XS.iconst X4.here hx rfl (hb hby at_36)) ?_
    show own_WP p e below _ T4 (mkF m 37 #[.val (.int x0), .val (.int x1), .val (.int x2), .val (.int x3), .val (.int t0), .unset, .unset, .unset, .unset] [(.int (0 : Int32)), (.int (0 : Int32)), (.ref b32), (.ref b32)])
    obtain ⟨T5, h5, X5, e5, W5, V'5, st5⟩ := own_iastore X4 C e4 V_b32 (vs' := [(0 : Int32), 0, 0, 0, 0, 0, 0, 0, 0, 0, 0, 0]) (j := (0 : Int32)) (x := (0 : Int32)) rfl (hb hby at_37)
    refine own_go st5 ?_
    replace V_b32 := V'5
    clear V'5
    replace K := K.wr W5 (Or.inr (by omega))
    replace N := Fr.snoc X5 N (by omega)
    show own_WP p e below _ T5 (mkF m 38 #[.val (.int x0), .val (.int x1), .val (.int x2), .val (.int x3), .val (.int t0), .unset, .unset, .unset, .unset] [(.ref b32)])
    refine own_go (fun _ => XS.dup X5.here hx rfl (hb hby at_38) rfl rfl) ?_
    show own_WP p e below _ T5 (mkF m 39 #[.val (.int x0), .val (.int x1), .val (.int x2), .val (.int x3), .val (.int t0), .unset, .unset, .unset, .unset] [(.ref b32), (.ref b32)])
    refine own_go (fun _ => XS.iconst X5.here hx rfl (hb hby at_39)) ?_
    show own_WP p e below _ T5 (mkF m 40 #[.val (.int x0), .val (.int x1), .val (.int x2), .val (.int x3), .val (.int t0), .unset, .unset, .unset, .unset] [(.int (1 : Int32)), (.ref b32), (.ref b32)])
    refine own_go (fun _ => XS.iconst X5.here hx rfl (hb hby at_40)) ?_
    show own_WP p e below _ T5 (mkF m 41 #[.val (.int x0), .val (.int x1), .val (.int x2), .val (.int x3), .val (.int t0), .unset, .unset, .unset, .unset] [(.int (1 : Int32)), (.int (1 : Int32)), (.ref b32), (.ref b32)])
    obtain ⟨T6, h6, X6, e6, W6, V'6, st6⟩ := own_iastore X5 C e5 V_b32 (vs' := [(0 : Int32), (1 : Int32), 0, 0, 0, 0, 0, 0, 0, 0, 0, 0]) (j := (1 : Int32)) (x := (1 : Int32)) rfl (hb hby at_41)
    refine own_go st6 ?_
    replace V_b32 := V'6
    clear V'6
    replace K := K.wr W6 (Or.inr (by omega))
    replace N := Fr.snoc X6 N (by omega)
    show own_WP p e below _ T6 (mkF m 42 #[.val (.int x0), .val (.int x1), .val (.int x2), .val (.int x3), .val (.int t0), .unset, .unset, .unset, .unset] [(.ref b32)])
    refine own_go (fun _ => XS.dup X6.here hx rfl (hb hby at_42) rfl rfl) ?_
    show own_WP p e below _ T6 (mkF m 43 #[.val (.int x0), .val (.int x1), .val (.int x2), .val (.int x3), .val (.int t0), .unset, .unset, .unset, .unset] [(.ref b32), (.ref b32)])
    refine own_go (fun _ => XS.iconst X6.here hx rfl (hb hby at_43)) ?_
    show own_WP p e below _ T6 (mkF m 44 #[.val (.int x0), .val (.int x1), .val (.int x2), .val (.int x3), .val (.int t0), .unset, .unset, .unset, .unset] [(.int (2 : Int32)), (.ref b32), (.ref b32)])
    refine own_go (fun _ => XS.bipush X6.here hx rfl (hb hby at_44)) ?_
    show own_WP p e below _ T6 (mkF m 46 #[.val (.int x0), .val (.int x1), .val (.int x2), .val (.int x3), .val (.int t0), .unset, .unset, .unset, .unset] [(.int (9 : Int32)), (.int (2 : Int32)), (.ref b32), (.ref b32)])
    obtain ⟨T7, h7, X7, e7, W7, V'7, st7⟩ := own_iastore X6 C e6 V_b32 (vs' := [(0 : Int32), (1 : Int32), (9 : Int32), 0, 0, 0, 0, 0, 0, 0, 0, 0]) (j := (2 : Int32)) (x := (9 : Int32)) rfl (hb hby at_46)
    refine own_go st7 ?_
    replace V_b32 := V'7
    clear V'7
    replace K := K.wr W7 (Or.inr (by omega))
    replace N := Fr.snoc X7 N (by omega)
    show own_WP p e below _ T7 (mkF m 47 #[.val (.int x0), .val (.int x1), .val (.int x2), .val (.int x3), .val (.int t0), .unset, .unset, .unset, .unset] [(.ref b32)])
    refine own_go (fun _ => XS.dup X7.here hx rfl (hb hby at_47) rfl rfl) ?_
    show own_WP p e below _ T7 (mkF m 48 #[.val (.int x0), .val (.int x1), .val (.int x2), .val (.int x3), .val (.int t0), .unset, .unset, .unset, .unset] [(.ref b32), (.ref b32)])
    refine own_go (fun _ => XS.iconst X7.here hx rfl (hb hby at_48)) ?_
    show own_WP p e below _ T7 (mkF m 49 #[.val (.int x0), .val (.int x1), .val (.int x2), .val (.int x3), .val (.int t0), .unset, .unset, .unset, .unset] [(.int (3 : Int32)), (.ref b32), (.ref b32)])
    refine own_go (fun _ => XS.bipush X7.here hx rfl (hb hby at_49)) ?_
    show own_WP p e below _ T7 (mkF m 51 #[.val (.int x0), .val (.int x1), .val (.int x2), .val (.int x3), .val (.int t0), .unset, .unset, .unset, .unset] [(.int (10 : Int32)), (.int (3 : Int32)), (.ref b32), (.ref b32)])
    obtain ⟨T8, h8, X8, e8, W8, V'8, st8⟩ := own_iastore X7 C e7 V_b32 (vs' := [(0 : Int32), (1 : Int32), (9 : Int32), (10 : Int32), 0, 0, 0, 0, 0, 0, 0, 0]) (j := (3 : Int32)) (x := (10 : Int32)) rfl (hb hby at_51)
    refine own_go st8 ?_
    replace V_b32 := V'8
    clear V'8
    replace K := K.wr W8 (Or.inr (by omega))
    replace N := Fr.snoc X8 N (by omega)
    show own_WP p e below _ T8 (mkF m 52 #[.val (.int x0), .val (.int x1), .val (.int x2), .val (.int x3), .val (.int t0), .unset, .unset, .unset, .unset] [(.ref b32)])
    refine own_go (fun _ => XS.dup X8.here hx rfl (hb hby at_52) rfl rfl) ?_
    show own_WP p e below _ T8 (mkF m 53 #[.val (.int x0), .val (.int x1), .val (.int x2), .val (.int x3), .val (.int t0), .unset, .unset, .unset, .unset] [(.ref b32), (.ref b32)])
    refine own_go (fun _ => XS.iconst X8.here hx rfl (hb hby at_53)) ?_
    show own_WP p e below _ T8 (mkF m 54 #[.val (.int x0), .val (.int x1), .val (.int x2), .val (.int x3), .val (.int t0), .unset, .unset, .unset, .unset] [(.int (4 : Int32)), (.ref b32), (.ref b32)])
    refine own_go (fun _ => XS.bipush X8.here hx rfl (hb hby at_54)) ?_
    show own_WP p e below _ T8 (mkF m 56 #[.val (.int x0), .val (.int x1), .val (.int x2), .val (.int x3), .val (.int t0), .unset, .unset, .unset, .unset] [(.int (13 : Int32)), (.int (4 : Int32)), (.ref b32), (.ref b32)])
    obtain ⟨T9, h9, X9, e9, W9, V'9, st9⟩ := own_iastore X8 C e8 V_b32 (vs' := [(0 : Int32), (1 : Int32), (9 : Int32), (10 : Int32), (13 : Int32), 0, 0, 0, 0, 0, 0, 0]) (j := (4 : Int32)) (x := (13 : Int32)) rfl (hb hby at_56)
    refine own_go st9 ?_
    replace V_b32 := V'9
    clear V'9
    replace K := K.wr W9 (Or.inr (by omega))
    replace N := Fr.snoc X9 N (by omega)
    show own_WP p e below _ T9 (mkF m 57 #[.val (.int x0), .val (.int x1), .val (.int x2), .val (.int x3), .val (.int t0), .unset, .unset, .unset, .unset] [(.ref b32)])
    refine own_go (fun _ => XS.dup X9.here hx rfl (hb hby at_57) rfl rfl) ?_
    show own_WP p e below _ T9 (mkF m 58 #[.val (.int x0), .val (.int x1), .val (.int x2), .val (.int x3), .val (.int t0), .unset, .unset, .unset, .unset] [(.ref b32), (.ref b32)])
    refine own_go (fun _ => XS.iconst X9.here hx rfl (hb hby at_58)) ?_
    show own_WP p e below _ T9 (mkF m 59 #[.val (.int x0), .val (.int x1), .val (.int x2), .val (.int x3), .val (.int t0), .unset, .unset, .unset, .unset] [(.int (5 : Int32)), (.ref b32), (.ref b32)])
    refine own_go (fun _ => XS.bipush X9.here hx rfl (hb hby at_59)) ?_
    show own_WP p e below _ T9 (mkF m 61 #[.val (.int x0), .val (.int x1), .val (.int x2), .val (.int x3), .val (.int t0), .unset, .unset, .unset, .unset] [(.int (31 : Int32)), (.int (5 : Int32)), (.ref b32), (.ref b32)])
    obtain ⟨T10, h10, X10, e10, W10, V'10, st10⟩ := own_iastore X9 C e9 V_b32 (vs' := [(0 : Int32), (1 : Int32), (9 : Int32), (10 : Int32), (13 : Int32), (31 : Int32), 0, 0, 0, 0, 0, 0]) (j := (5 : Int32)) (x := (31 : Int32)) rfl (hb hby at_61)
    refine own_go st10 ?_
    replace V_b32 := V'10
    clear V'10
    replace K := K.wr W10 (Or.inr (by omega))
    replace N := Fr.snoc X10 N (by omega)
    show own_WP p e below _ T10 (mkF m 62 #[.val (.int x0), .val (.int x1), .val (.int x2), .val (.int x3), .val (.int t0), .unset, .unset, .unset, .unset] [(.ref b32)])
    refine own_go (fun _ => XS.dup X10.here hx rfl (hb hby at_62) rfl rfl) ?_
    show own_WP p e below _ T10 (mkF m 63 #[.val (.int x0), .val (.int x1), .val (.int x2), .val (.int x3), .val (.int t0), .unset, .unset, .unset, .unset] [(.ref b32), (.ref b32)])
    refine own_go (fun _ => XS.bipush X10.here hx rfl (hb hby at_63)) ?_
    show own_WP p e below _ T10 (mkF m 65 #[.val (.int x0), .val (.int x1), .val (.int x2), .val (.int x3), .val (.int t0), .unset, .unset, .unset, .unset] [(.int (6 : Int32)), (.ref b32), (.ref b32)])
    refine own_go (fun _ => XS.bipush X10.here hx rfl (hb hby at_65)) ?_
    show own_WP p e below _ T10 (mkF m 67 #[.val (.int x0), .val (.int x1), .val (.int x2), .val (.int x3), .val (.int t0), .unset, .unset, .unset, .unset] [(.int (32 : Int32)), (.int (6 : Int32)), (.ref b32), (.ref b32)])
    obtain ⟨T11, h11, X11, e11, W11, V'11, st11⟩ := own_iastore X10 C e10 V_b32 (vs' := [(0 : Int32), (1 : Int32), (9 : Int32), (10 : Int32), (13 : Int32), (31 : Int32), (32 : Int32), 0, 0, 0, 0, 0]) (j := (6 : Int32)) (x := (32 : Int32)) rfl (hb hby at_67)
    refine own_go st11 ?_
    replace V_b32 := V'11
    clear V'11
    replace K := K.wr W11 (Or.inr (by omega))
    replace N := Fr.snoc X11 N (by omega)
    show own_WP p e below _ T11 (mkF m 68 #[.val (.int x0), .val (.int x1), .val (.int x2), .val (.int x3), .val (.int t0), .unset, .unset, .unset, .unset] [(.ref b32)])
    refine own_go (fun _ => XS.dup X11.here hx rfl (hb hby at_68) rfl rfl) ?_
    show own_WP p e below _ T11 (mkF m 69 #[.val (.int x0), .val (.int x1), .val (.int x2), .val (.int x3), .val (.int t0), .unset, .unset, .unset, .unset] [(.ref b32), (.ref b32)])
    refine own_go (fun _ => XS.bipush X11.here hx rfl (hb hby at_69)) ?_
    show own_WP p e below _ T11 (mkF m 71 #[.val (.int x0), .val (.int x1), .val (.int x2), .val (.int x3), .val (.int t0), .unset, .unset, .unset, .unset] [(.int (7 : Int32)), (.ref b32), (.ref b32)])
    refine own_go (X11.ldcInt hx hown (mvT hZ (hw _ (List.mem_of_getElem? (i := 1) rfl))) (g := (mkF m 71 #[.val (.int x0), .val (.int x1), .val (.int x2), .val (.int x3), .val (.int t0), .unset, .unset, .unset, .unset] [(.int (7 : Int32)), (.ref b32), (.ref b32)])) rfl (hb hby at_71)) ?_
    show own_WP p e below _ T11 (mkF m 73 #[.val (.int x0), .val (.int x1), .val (.int x2), .val (.int x3), .val (.int t0), .unset, .unset, .unset, .unset] [(.int (55295 : Int32)), (.int (7 : Int32)), (.ref b32), (.ref b32)])
    obtain ⟨T12, h12, X12, e12, W12, V'12, st12⟩ := own_iastore X11 C e11 V_b32 (vs' := [(0 : Int32), (1 : Int32), (9 : Int32), (10 : Int32), (13 : Int32), (31 : Int32), (32 : Int32), (55295 : Int32), 0, 0, 0, 0]) (j := (7 : Int32)) (x := (55295 : Int32)) rfl (hb hby at_73)
    refine own_go st12 ?_
    replace V_b32 := V'12
    clear V'12
    replace K := K.wr W12 (Or.inr (by omega))
    replace N := Fr.snoc X12 N (by omega)
    show own_WP p e below _ T12 (mkF m 74 #[.val (.int x0), .val (.int x1), .val (.int x2), .val (.int x3), .val (.int t0), .unset, .unset, .unset, .unset] [(.ref b32)])
    refine own_go (fun _ => XS.dup X12.here hx rfl (hb hby at_74) rfl rfl) ?_
    show own_WP p e below _ T12 (mkF m 75 #[.val (.int x0), .val (.int x1), .val (.int x2), .val (.int x3), .val (.int t0), .unset, .unset, .unset, .unset] [(.ref b32), (.ref b32)])
    refine own_go (fun _ => XS.bipush X12.here hx rfl (hb hby at_75)) ?_
    show own_WP p e below _ T12 (mkF m 77 #[.val (.int x0), .val (.int x1), .val (.int x2), .val (.int x3), .val (.int t0), .unset, .unset, .unset, .unset] [(.int (8 : Int32)), (.ref b32), (.ref b32)])
    refine own_go (X12.ldcInt hx hown (mvT hZ (hw _ (List.mem_of_getElem? (i := 2) rfl))) (g := (mkF m 77 #[.val (.int x0), .val (.int x1), .val (.int x2), .val (.int x3), .val (.int t0), .unset, .unset, .unset, .unset] [(.int (8 : Int32)), (.ref b32), (.ref b32)])) rfl (hb hby at_77)) ?_
    show own_WP p e below _ T12 (mkF m 79 #[.val (.int x0), .val (.int x1), .val (.int x2), .val (.int x3), .val (.int t0), .unset, .unset, .unset, .unset] [(.int (57344 : Int32)), (.int (8 : Int32)), (.ref b32), (.ref b32)])
    obtain ⟨T13, h13, X13, e13, W13, V'13, st13⟩ := own_iastore X12 C e12 V_b32 (vs' := [(0 : Int32), (1 : Int32), (9 : Int32), (10 : Int32), (13 : Int32), (31 : Int32), (32 : Int32), (55295 : Int32), (57344 : Int32), 0, 0, 0]) (j := (8 : Int32)) (x := (57344 : Int32)) rfl (hb hby at_79)
    refine own_go st13 ?_
    replace V_b32 := V'13
    clear V'13
    replace K := K.wr W13 (Or.inr (by omega))
    replace N := Fr.snoc X13 N (by omega)
    show own_WP p e below _ T13 (mkF m 80 #[.val (.int x0), .val (.int x1), .val (.int x2), .val (.int x3), .val (.int t0), .unset, .unset, .unset, .unset] [(.ref b32)])
    refine own_go (fun _ => XS.dup X13.here hx rfl (hb hby at_80) rfl rfl) ?_
    show own_WP p e below _ T13 (mkF m 81 #[.val (.int x0), .val (.int x1), .val (.int x2), .val (.int x3), .val (.int t0), .unset, .unset, .unset, .unset] [(.ref b32), (.ref b32)])
    refine own_go (fun _ => XS.bipush X13.here hx rfl (hb hby at_81)) ?_
    show own_WP p e below _ T13 (mkF m 83 #[.val (.int x0), .val (.int x1), .val (.int x2), .val (.int x3), .val (.int t0), .unset, .unset, .unset, .unset] [(.int (9 : Int32)), (.ref b32), (.ref b32)])
    refine own_go (X13.ldcInt hx hown (mvT hZ (hw _ (List.mem_of_getElem? (i := 3) rfl))) (g := (mkF m 83 #[.val (.int x0), .val (.int x1), .val (.int x2), .val (.int x3), .val (.int t0), .unset, .unset, .unset, .unset] [(.int (9 : Int32)), (.ref b32), (.ref b32)])) rfl (hb hby at_83)) ?_
    show own_WP p e below _ T13 (mkF m 85 #[.val (.int x0), .val (.int x1), .val (.int x2), .val (.int x3), .val (.int t0), .unset, .unset, .unset, .unset] [(.int (65533 : Int32)), (.int (9 : Int32)), (.ref b32), (.ref b32)])
    obtain ⟨T14, h14, X14, e14, W14, V'14, st14⟩ := own_iastore X13 C e13 V_b32 (vs' := [(0 : Int32), (1 : Int32), (9 : Int32), (10 : Int32), (13 : Int32), (31 : Int32), (32 : Int32), (55295 : Int32), (57344 : Int32), (65533 : Int32), 0, 0]) (j := (9 : Int32)) (x := (65533 : Int32)) rfl (hb hby at_85)
    refine own_go st14 ?_
    replace V_b32 := V'14
    clear V'14
    replace K := K.wr W14 (Or.inr (by omega))
    replace N := Fr.snoc X14 N (by omega)
    show own_WP p e below _ T14 (mkF m 86 #[.val (.int x0), .val (.int x1), .val (.int x2), .val (.int x3), .val (.int t0), .unset, .unset, .unset, .unset] [(.ref b32)])
    refine own_go (fun _ => XS.dup X14.here hx rfl (hb hby at_86) rfl rfl) ?_
    show own_WP p e below _ T14 (mkF m 87 #[.val (.int x0), .val (.int x1), .val (.int x2), .val (.int x3), .val (.int t0), .unset, .unset, .unset, .unset] [(.ref b32), (.ref b32)])
    refine own_go (fun _ => XS.bipush X14.here hx rfl (hb hby at_87)) ?_
    show own_WP p e below _ T14 (mkF m 89 #[.val (.int x0), .val (.int x1), .val (.int x2), .val (.int x3), .val (.int t0), .unset, .unset, .unset, .unset] [(.int (10 : Int32)), (.ref b32), (.ref b32)])
    refine own_go (X14.ldcInt hx hown (mvT hZ (hw _ (List.mem_of_getElem? (i := 4) rfl))) (g := (mkF m 89 #[.val (.int x0), .val (.int x1), .val (.int x2), .val (.int x3), .val (.int t0), .unset, .unset, .unset, .unset] [(.int (10 : Int32)), (.ref b32), (.ref b32)])) rfl (hb hby at_89)) ?_
    show own_WP p e below _ T14 (mkF m 91 #[.val (.int x0), .val (.int x1), .val (.int x2), .val (.int x3), .val (.int t0), .unset, .unset, .unset, .unset] [(.int (65536 : Int32)), (.int (10 : Int32)), (.ref b32), (.ref b32)])
    obtain ⟨T15, h15, X15, e15, W15, V'15, st15⟩ := own_iastore X14 C e14 V_b32 (vs' := [(0 : Int32), (1 : Int32), (9 : Int32), (10 : Int32), (13 : Int32), (31 : Int32), (32 : Int32), (55295 : Int32), (57344 : Int32), (65533 : Int32), (65536 : Int32), 0]) (j := (10 : Int32)) (x := (65536 : Int32)) rfl (hb hby at_91)
    refine own_go st15 ?_
    replace V_b32 := V'15
    clear V'15
    replace K := K.wr W15 (Or.inr (by omega))
    replace N := Fr.snoc X15 N (by omega)
    show own_WP p e below _ T15 (mkF m 92 #[.val (.int x0), .val (.int x1), .val (.int x2), .val (.int x3), .val (.int t0), .unset, .unset, .unset, .unset] [(.ref b32)])
    refine own_go (fun _ => XS.dup X15.here hx rfl (hb hby at_92) rfl rfl) ?_
    show own_WP p e below _ T15 (mkF m 93 #[.val (.int x0), .val (.int x1), .val (.int x2), .val (.int x3), .val (.int t0), .unset, .unset, .unset, .unset] [(.ref b32), (.ref b32)])
    refine own_go (fun _ => XS.bipush X15.here hx rfl (hb hby at_93)) ?_
    show own_WP p e below _ T15 (mkF m 95 #[.val (.int x0), .val (.int x1), .val (.int x2), .val (.int x3), .val (.int t0), .unset, .unset, .unset, .unset] [(.int (11 : Int32)), (.ref b32), (.ref b32)])
    refine own_go (X15.ldcInt hx hown (mvT hZ (hw _ (List.mem_of_getElem? (i := 5) rfl))) (g := (mkF m 95 #[.val (.int x0), .val (.int x1), .val (.int x2), .val (.int x3), .val (.int t0), .unset, .unset, .unset, .unset] [(.int (11 : Int32)), (.ref b32), (.ref b32)])) rfl (hb hby at_95)) ?_
    show own_WP p e below _ T15 (mkF m 97 #[.val (.int x0), .val (.int x1), .val (.int x2), .val (.int x3), .val (.int t0), .unset, .unset, .unset, .unset] [(.int (1114111 : Int32)), (.int (11 : Int32)), (.ref b32), (.ref b32)])
    obtain ⟨T16, h16, X16, e16, W16, V'16, st16⟩ := own_iastore X15 C e15 V_b32 (vs' := [(0 : Int32), (1 : Int32), (9 : Int32), (10 : Int32), (13 : Int32), (31 : Int32), (32 : Int32), (55295 : Int32), (57344 : Int32), (65533 : Int32), (65536 : Int32), (1114111 : Int32)]) (j := (11 : Int32)) (x := (1114111 : Int32)) rfl (hb hby at_97)
    refine own_go st16 ?_
    replace V_b32 := V'16
    clear V'16
    replace K := K.wr W16 (Or.inr (by omega))
    replace N := Fr.snoc X16 N (by omega)
    show own_WP p e below _ T16 (mkF m 98 #[.val (.int x0), .val (.int x1), .val (.int x2), .val (.int x3), .val (.int t0), .unset, .unset, .unset, .unset] [(.ref b32)])
    refine own_go (fun _ => XS.astore X16.here hx rfl (hb hby at_98) rfl rfl (l' := #[.val (.int x0), .val (.int x1), .val (.int x2), .val (.int x3), .val (.int t0), .unset, .val (.ref b32), .unset, .unset]) rfl) ?_
    show own_WP p e below _ T16 (mkF m 100 #[.val (.int x0), .val (.int x1), .val (.int x2), .val (.int x3), .val (.int t0), .unset, .val (.ref b32), .unset, .unset] [])
    refine own_go (fun _ => XS.aload X16.here hx rfl (hb hby at_100) rfl rfl) ?_
    show own_WP p e below _ T16 (mkF m 102 #[.val (.int x0), .val (.int x1), .val (.int x2), .val (.int x3), .val (.int t0), .unset, .val (.ref b32), .unset, .unset] [(.ref b32)])
    refine own_go (fun _ => XS.iloadN X16.here hx rfl (hb hby at_102) rfl) ?_
    show own_WP p e below _ T16 (mkF m 103 #[.val (.int x0), .val (.int x1), .val (.int x2), .val (.int x3), .val (.int t0), .unset, .val (.ref b32), .unset, .unset] [(.int x0), (.ref b32)])
    refine own_go (X16.ldcInt hx hown (mvT hZ (hw _ (List.mem_of_getElem? (i := 6) rfl))) (g := (mkF m 103 #[.val (.int x0), .val (.int x1), .val (.int x2), .val (.int x3), .val (.int t0), .unset, .val (.ref b32), .unset, .unset] [(.int x0), (.ref b32)])) rfl (hb hby at_103)) ?_
    show own_WP p e below _ T16 (mkF m 105 #[.val (.int x0), .val (.int x1), .val (.int x2), .val (.int x3), .val (.int t0), .unset, .val (.ref b32), .unset, .unset] [(.int (2147483647 : Int32)), (.int x0), (.ref b32)])
    refine own_go (fun _ => XS.iand X16.here hx rfl (hb hby at_105) rfl) ?_
    show own_WP p e below _ T16 (mkF m 106 #[.val (.int x0), .val (.int x1), .val (.int x2), .val (.int x3), .val (.int t0), .unset, .val (.ref b32), .unset, .unset] [(.int (x0 &&& (2147483647 : Int32))), (.ref b32)])
    refine own_go (fun _ => XS.bipush X16.here hx rfl (hb hby at_106)) ?_
    show own_WP p e below _ T16 (mkF m 108 #[.val (.int x0), .val (.int x1), .val (.int x2), .val (.int x3), .val (.int t0), .unset, .val (.ref b32), .unset, .unset] [(.int (12 : Int32)), (.int (x0 &&& (2147483647 : Int32))), (.ref b32)])
    refine own_go (fun _ => iremM X16 hx rfl (hb hby at_108) rfl (by decide)) ?_
    show own_WP p e below _ T16 (mkF m 109 #[.val (.int x0), .val (.int x1), .val (.int x2), .val (.int x3), .val (.int t0), .unset, .val (.ref b32), .unset, .unset] [(.int ((x0 &&& (2147483647 : Int32)) % (12 : Int32))), (.ref b32)])
    obtain ⟨w17, hg17, hv⟩ := own_bind hv
    refine own_go (own_iaload X16 C e16 V_b32 hg17 (hb hby at_109)) ?_
    show own_WP p e below _ T16 (mkF m 110 #[.val (.int x0), .val (.int x1), .val (.int x2), .val (.int x3), .val (.int t0), .unset, .val (.ref b32), .unset, .unset] [(.int w17)])
    refine own_go (fun _ => XS.istore X16.here hx rfl (hb hby at_110) rfl (l' := #[.val (.int x0), .val (.int x1), .val (.int x2), .val (.int x3), .val (.int t0), .unset, .val (.ref b32), .val (.int w17), .unset]) rfl) ?_
    show own_WP p e below _ T16 (mkF m 112 #[.val (.int x0), .val (.int x1), .val (.int x2), .val (.int x3), .val (.int t0), .unset, .val (.ref b32), .val (.int w17), .unset] [])
    refine own_go (fun _ => XS.iloadN X16.here hx rfl (hb hby at_112) rfl) ?_
    show own_WP p e below _ T16 (mkF m 113 #[.val (.int x0), .val (.int x1), .val (.int x2), .val (.int x3), .val (.int t0), .unset, .val (.ref b32), .val (.int w17), .unset] [(.int x1)])
    refine own_go (fun _ => XS.iconst X16.here hx rfl (hb hby at_113)) ?_
    show own_WP p e below _ T16 (mkF m 114 #[.val (.int x0), .val (.int x1), .val (.int x2), .val (.int x3), .val (.int t0), .unset, .val (.ref b32), .val (.int w17), .unset] [(.int (3 : Int32)), (.int x1)])
    refine own_go (fun _ => iremM X16 hx rfl (hb hby at_114) rfl (by decide)) ?_
    show own_WP p e below _ T16 (mkF m 115 #[.val (.int x0), .val (.int x1), .val (.int x2), .val (.int x3), .val (.int t0), .unset, .val (.ref b32), .val (.int w17), .unset] [(.int (x1 % (3 : Int32)))])
    refine own_go (fun _ => XS.istore X16.here hx rfl (hb hby at_115) rfl (l' := #[.val (.int x0), .val (.int x1), .val (.int x2), .val (.int x3), .val (.int t0), .unset, .val (.ref b32), .val (.int w17), .val (.int (x1 % (3 : Int32)))]) rfl) ?_
    show own_WP p e below _ T16 (mkF m 117 #[.val (.int x0), .val (.int x1), .val (.int x2), .val (.int x3), .val (.int t0), .unset, .val (.ref b32), .val (.int w17), .val (.int (x1 % (3 : Int32)))] [])
    refine own_go (fun _ => XS.iconst X16.here hx rfl (hb hby at_117)) ?_
    show own_WP p e below _ T16 (mkF m 118 #[.val (.int x0), .val (.int x1), .val (.int x2), .val (.int x3), .val (.int t0), .unset, .val (.ref b32), .val (.int w17), .val (.int (x1 % (3 : Int32)))] [(.int (0 : Int32))])
    refine own_go (X16.ldcInt hx hown (mvT hZ (hw _ (List.mem_of_getElem? (i := 5) rfl))) (g := (mkF m 118 #[.val (.int x0), .val (.int x1), .val (.int x2), .val (.int x3), .val (.int t0), .unset, .val (.ref b32), .val (.int w17), .val (.int (x1 % (3 : Int32)))] [(.int (0 : Int32))])) rfl (hb hby at_118)) ?_
    show own_WP p e below _ T16 (mkF m 120 #[.val (.int x0), .val (.int x1), .val (.int x2), .val (.int x3), .val (.int t0), .unset, .val (.ref b32), .val (.int w17), .val (.int (x1 % (3 : Int32)))] [(.int (1114111 : Int32)), (.int (0 : Int32))])
    refine own_go (fun _ => XS.iload X16.here hx rfl (hb hby at_120) rfl) ?_
    show own_WP p e below _ T16 (mkF m 122 #[.val (.int x0), .val (.int x1), .val (.int x2), .val (.int x3), .val (.int t0), .unset, .val (.ref b32), .val (.int w17), .val (.int (x1 % (3 : Int32)))] [(.int w17), (.int (1114111 : Int32)), (.int (0 : Int32))])
    refine own_go (fun _ => XS.iload X16.here hx rfl (hb hby at_122) rfl) ?_
    show own_WP p e below _ T16 (mkF m 124 #[.val (.int x0), .val (.int x1), .val (.int x2), .val (.int x3), .val (.int t0), .unset, .val (.ref b32), .val (.int w17), .val (.int (x1 % (3 : Int32)))] [(.int (x1 % (3 : Int32))), (.int w17), (.int (1114111 : Int32)), (.int (0 : Int32))])
    refine own_go (fun _ => XS.iadd X16.here hx rfl (hb hby at_124) rfl) ?_
    show own_WP p e below _ T16 (mkF m 125 #[.val (.int x0), .val (.int x1), .val (.int x2), .val (.int x3), .val (.int t0), .unset, .val (.ref b32), .val (.int w17), .val (.int (x1 % (3 : Int32)))] [(.int (w17 + (x1 % (3 : Int32)))), (.int (1114111 : Int32)), (.int (0 : Int32))])
    obtain ⟨T18, v18, L18, X18, ⟨rfl, rfl, e18⟩, st18⟩ := own_callS X16 C (rm1 l Z a0 hw (1114111 : Int32) (w17 + (x1 % (3 : Int32))) h16) (hw _ (List.mem_of_getElem? (i := 7) rfl)) (hw _ (List.mem_of_getElem? (i := 8) rfl)) (hw _ (List.mem_of_getElem? (i := 9) rfl)) (hw _ (List.mem_of_getElem? (i := 10) rfl)) (by decide) e16 (W := 1) (pc := 125) (Ls := #[.val (.int x0), .val (.int x1), .val (.int x2), .val (.int x3), .val (.int t0), .unset, .val (.ref b32), .val (.int w17), .val (.int (x1 % (3 : Int32)))]) rfl (lenOf pd1 rfl) (rest := [(.int (0 : Int32))]) (stk := [(.int (w17 + (x1 % (3 : Int32)))), (.int (1114111 : Int32)), (.int (0 : Int32))]) rfl (Nat.le_of_ble_eq_true rfl) (hb hby at_125) (by decide) (by decide) (by decide) (by decide)
    rw [List.append_nil] at X18
    refine own_go st18 ?_
    show own_WP p e below _ T18 (mkF m 128 #[.val (.int x0), .val (.int x1), .val (.int x2), .val (.int x3), .val (.int t0), .unset, .val (.ref b32), .val (.int w17), .val (.int (x1 % (3 : Int32)))] [(.int (f1_0 (1114111 : Int32) (w17 + (x1 % (3 : Int32))))), (.int (0 : Int32))])
    obtain ⟨T19, v19, L19, X19, ⟨rfl, rfl, e19⟩, st19⟩ := own_callS X18 C (rm2 l Z a0 hw (0 : Int32) (f1_0 (1114111 : Int32) (w17 + (x1 % (3 : Int32)))) h16) (hw _ (List.mem_of_getElem? (i := 11) rfl)) (hw _ (List.mem_of_getElem? (i := 12) rfl)) (hw _ (List.mem_of_getElem? (i := 9) rfl)) (hw _ (List.mem_of_getElem? (i := 13) rfl)) (by decide) e18 (W := 0) (pc := 128) (Ls := #[.val (.int x0), .val (.int x1), .val (.int x2), .val (.int x3), .val (.int t0), .unset, .val (.ref b32), .val (.int w17), .val (.int (x1 % (3 : Int32)))]) rfl (lenOf pd2 rfl) (rest := []) (stk := [(.int (f1_0 (1114111 : Int32) (w17 + (x1 % (3 : Int32))))), (.int (0 : Int32))]) rfl (Nat.le_of_ble_eq_true rfl) (hb hby at_128) (by decide) (by decide) (by decide) (by decide)
    rw [List.append_nil] at X19
    refine own_go st19 ?_
    show own_WP p e below _ T19 (mkF m 131 #[.val (.int x0), .val (.int x1), .val (.int x2), .val (.int x3), .val (.int t0), .unset, .val (.ref b32), .val (.int w17), .val (.int (x1 % (3 : Int32)))] [(.int (f2_0 (0 : Int32) (f1_0 (1114111 : Int32) (w17 + (x1 % (3 : Int32))))))])
    generalize (f2_0 (0 : Int32) (f1_0 (1114111 : Int32) (w17 + (x1 % (3 : Int32))))) = y20 at hv ⊢
    replace hv := own_letE hv
    show own_WP p e below _ T19 (mkF m 131 #[.val (.int x0), .val (.int x1), .val (.int x2), .val (.int x3), .val (.int t0), .unset, .val (.ref b32), .val (.int w17), .val (.int (x1 % (3 : Int32)))] [(.int y20)])
    refine own_go (fun _ => XS.istore X19.here hx rfl (hb hby at_131) rfl (l' := #[.val (.int x0), .val (.int x1), .val (.int x2), .val (.int x3), .val (.int t0), .val (.int y20), .val (.ref b32), .val (.int w17), .val (.int (x1 % (3 : Int32)))]) rfl) ?_
    show own_WP p e below _ T19 (mkF m 133 #[.val (.int x0), .val (.int x1), .val (.int x2), .val (.int x3), .val (.int t0), .val (.int y20), .val (.ref b32), .val (.int w17), .val (.int (x1 % (3 : Int32)))] [])
    refine own_go (fun _ => XS.goto X19.here hx rfl (pc0 := 133) (pc' := 145) rfl (hb hby at_133) (by decide) (by decide)) ?_
    show own_WP p e below _ T19 (mkF m 145 #[.val (.int x0), .val (.int x1), .val (.int x2), .val (.int x3), .val (.int t0), .val (.int y20), .val (.ref b32), .val (.int w17), .val (.int (x1 % (3 : Int32)))] [])
    refine own_go (fun _ => XS.iload X19.here hx rfl (hb hby at_145) rfl) ?_
    show own_WP p e below _ T19 (mkF m 147 #[.val (.int x0), .val (.int x1), .val (.int x2), .val (.int x3), .val (.int t0), .val (.int y20), .val (.ref b32), .val (.int w17), .val (.int (x1 % (3 : Int32)))] [(.int y20)])
    refine own_go (fun _ => XS.iloadN X19.here hx rfl (hb hby at_147) rfl) ?_
    show own_WP p e below _ T19 (mkF m 148 #[.val (.int x0), .val (.int x1), .val (.int x2), .val (.int x3), .val (.int t0), .val (.int y20), .val (.ref b32), .val (.int w17), .val (.int (x1 % (3 : Int32)))] [(.int x3), (.int y20)])
    obtain ⟨T21, v21, L21, X21, ⟨rfl, rfl, e21⟩, st21⟩ := own_callS X19 C (rm3 l Z a0 hw y20 x3 h16) (hw _ (List.mem_of_getElem? (i := 14) rfl)) (hw _ (List.mem_of_getElem? (i := 15) rfl)) (hw _ (List.mem_of_getElem? (i := 16) rfl)) (hw _ (List.mem_of_getElem? (i := 17) rfl)) (by decide) e19 (W := 0) (pc := 148) (Ls := #[.val (.int x0), .val (.int x1), .val (.int x2), .val (.int x3), .val (.int t0), .val (.int y20), .val (.ref b32), .val (.int w17), .val (.int (x1 % (3 : Int32)))]) rfl (lenOf pd3 rfl) (rest := []) (stk := [(.int x3), (.int y20)]) rfl (Nat.le_of_ble_eq_true rfl) (hb hby at_148) (by decide) (by decide) (by decide) (by decide)
    rw [List.append_nil] at X21
    refine own_go st21 ?_
    show own_WP p e below _ T21 (mkF m 151 #[.val (.int x0), .val (.int x1), .val (.int x2), .val (.int x3), .val (.int t0), .val (.int y20), .val (.ref b32), .val (.int w17), .val (.int (x1 % (3 : Int32)))] [(.int (f3_0 y20 x3))])
    refine own_go (fun _ => XS.istore X21.here hx rfl (hb hby at_151) rfl (l' := #[.val (.int x0), .val (.int x1), .val (.int x2), .val (.int x3), .val (.int t0), .val (.int y20), .val (.int (f3_0 y20 x3)), .val (.int w17), .val (.int (x1 % (3 : Int32)))]) rfl) ?_
    show own_WP p e below _ T21 (mkF m 153 #[.val (.int x0), .val (.int x1), .val (.int x2), .val (.int x3), .val (.int t0), .val (.int y20), .val (.int (f3_0 y20 x3)), .val (.int w17), .val (.int (x1 % (3 : Int32)))] [])
    refine own_go (fun _ => XS.iload X21.here hx rfl (hb hby at_153) rfl) ?_
    show own_WP p e below _ T21 (mkF m 155 #[.val (.int x0), .val (.int x1), .val (.int x2), .val (.int x3), .val (.int t0), .val (.int y20), .val (.int (f3_0 y20 x3)), .val (.int w17), .val (.int (x1 % (3 : Int32)))] [(.int (f3_0 y20 x3))])
    refine own_go (fun _ => XS.iload X21.here hx rfl (hb hby at_155) rfl) ?_
    show own_WP p e below _ T21 (mkF m 157 #[.val (.int x0), .val (.int x1), .val (.int x2), .val (.int x3), .val (.int t0), .val (.int y20), .val (.int (f3_0 y20 x3)), .val (.int w17), .val (.int (x1 % (3 : Int32)))] [(.int y20), (.int (f3_0 y20 x3))])
    refine own_go (fun _ => XS.iloadN X21.here hx rfl (hb hby at_157) rfl) ?_
    show own_WP p e below _ T21 (mkF m 158 #[.val (.int x0), .val (.int x1), .val (.int x2), .val (.int x3), .val (.int t0), .val (.int y20), .val (.int (f3_0 y20 x3)), .val (.int w17), .val (.int (x1 % (3 : Int32)))] [(.int x3), (.int y20), (.int (f3_0 y20 x3))])
    obtain ⟨T22, v22, L22, X22, ⟨rfl, rfl, e22⟩, st22⟩ := own_callS X21 C (rm4 l Z a0 hw y20 x3 h16) (hw _ (List.mem_of_getElem? (i := 18) rfl)) (hw _ (List.mem_of_getElem? (i := 19) rfl)) (hw _ (List.mem_of_getElem? (i := 20) rfl)) (hw _ (List.mem_of_getElem? (i := 21) rfl)) (by decide) e21 (W := 1) (pc := 158) (Ls := #[.val (.int x0), .val (.int x1), .val (.int x2), .val (.int x3), .val (.int t0), .val (.int y20), .val (.int (f3_0 y20 x3)), .val (.int w17), .val (.int (x1 % (3 : Int32)))]) rfl (lenOf pd4 rfl) (rest := [(.int (f3_0 y20 x3))]) (stk := [(.int x3), (.int y20), (.int (f3_0 y20 x3))]) rfl (Nat.le_of_ble_eq_true rfl) (hb hby at_158) (by decide) (by decide) (by decide) (by decide)
    rw [List.append_nil] at X22
    refine own_go st22 ?_
    show own_WP p e below _ T22 (mkF m 161 #[.val (.int x0), .val (.int x1), .val (.int x2), .val (.int x3), .val (.int t0), .val (.int y20), .val (.int (f3_0 y20 x3)), .val (.int w17), .val (.int (x1 % (3 : Int32)))] [(.int (f4_0 y20 x3)), (.int (f3_0 y20 x3))])
    by_cases h161 : (f3_0 y20 x3) = (f4_0 y20 x3)
    · replace hv := (if_pos h161).symm.trans hv
      refine own_go (fun _ => XS.icmpNo X22.here hx rfl (hb hby at_161) rfl (XT.ii_ne_f h161)) ?_
      show own_WP p e below _ T22 (mkF m 164 #[.val (.int x0), .val (.int x1), .val (.int x2), .val (.int x3), .val (.int t0), .val (.int y20), .val (.int (f3_0 y20 x3)), .val (.int w17), .val (.int (x1 % (3 : Int32)))] [])
      refine own_go (fun _ => XS.iconst X22.here hx rfl (hb hby at_164)) ?_
      show own_WP p e below _ T22 (mkF m 165 #[.val (.int x0), .val (.int x1), .val (.int x2), .val (.int x3), .val (.int t0), .val (.int y20), .val (.int (f3_0 y20 x3)), .val (.int w17), .val (.int (x1 % (3 : Int32)))] [(.int (1 : Int32))])
      refine own_go (fun _ => XS.goto X22.here hx rfl (pc0 := 165) (pc' := 169) rfl (hb hby at_165) (by decide) (by decide)) ?_
      show own_WP p e below _ T22 (mkF m 169 #[.val (.int x0), .val (.int x1), .val (.int x2), .val (.int x3), .val (.int t0), .val (.int y20), .val (.int (f3_0 y20 x3)), .val (.int w17), .val (.int (x1 % (3 : Int32)))] [(.int (1 : Int32))])
      obtain rfl := Option.some.inj hv
      exact own_retN X22 C (by simp) (hb hby at_169) (by rw [e22]; exact hP _ _ _ N K rfl) (by decide) (by decide)
    · replace hv := (if_neg h161).symm.trans hv
      refine own_go (fun _ => XS.icmpYes X22.here hx rfl (pc0 := 161) (pc' := 168) rfl (hb hby at_161) rfl (XT.ii_ne_t h161) (by decide) (by decide)) ?_
      show own_WP p e below _ T22 (mkF m 168 #[.val (.int x0), .val (.int x1), .val (.int x2), .val (.int x3), .val (.int t0), .val (.int y20), .val (.int (f3_0 y20 x3)), .val (.int w17), .val (.int (x1 % (3 : Int32)))] [])
      refine own_go (fun _ => XS.iconst X22.here hx rfl (hb hby at_168)) ?_
      show own_WP p e below _ T22 (mkF m 169 #[.val (.int x0), .val (.int x1), .val (.int x2), .val (.int x3), .val (.int t0), .val (.int y20), .val (.int (f3_0 y20 x3)), .val (.int w17), .val (.int (x1 % (3 : Int32)))] [(.int (0 : Int32))])
      obtain rfl := Option.some.inj hv
      exact own_retN X22 C (by simp) (hb hby at_169) (by rw [e22]; exact hP _ _ _ N K rfl) (by decide) (by decide)
def f0_11 (x0 : Int32) (x1 : Int32) (x2 : Int32) (t0 : Int32) : Option (Int32) := (if (x2 &&& (2 : Int32)) = (0 : Int32) then (f0_23 x0 x1 t0 (0 : Int32)) else (f0_23 x0 x1 t0 (1 : Int32)))
set_option maxRecDepth 65536 in
set_option maxHeartbeats 40000000 in
theorem b0_11 {p : Program} {l : Launch} {e : Env} {s : State} {m : MethodId} {args : Array Value} {below : List Frame} {meth : Method} {c : Code} {Z : State} {a0 : Array Value} {h0 : Heap} {n0 : Nat} {P : Option Value → Heap → List Loc → Prop} (hw : ∀ d ∈ tables_1, d.before a0 Z = true) (C : own_Ctx p s m meth c Z x code maxLocals ret) (Z0 : n0 ≤ h0.size)   (rr : Int32) (hP : ∀ v h L, Fr n0 L → Keep h0 h [] → E0 Z h0  rr v h → P v h L)
    {T : State} {locs : List Loc} {h : Heap} (X : Stand p l e room_1 s m args below meth c T locs 0 0) (e0 : T.heap = h) (N : Fr n0 locs) (K : Keep h0 h []) (x0 : Int32) (x1 : Int32) (x2 : Int32) (t0 : Int32) (hv : f0_11 x0 x1 x2 t0 = some rr) :
    own_WP p e below (own_Q s P room_1.cells room_1.slots) T (mkF m 11 #[.val (.int x0), .val (.int x1), .val (.int x2), .unset, .unset, .unset, .unset, .unset, .unset] [(.int t0)]) := by
  obtain ⟨hx, hZ, hby, hml, hown, hnm, hret, hlk⟩ := id C
  replace hown : s.vm.findClass "com/example/kvasir/kvasir/XmlVersionIsCharPinLaw" = some m.cls := hown
  unfold f0_11 at hv
  show own_WP p e below _ T (mkF m 11 #[.val (.int x0), .val (.int x1), .val (.int x2), .unset, .unset, .unset, .unset, .unset, .unset] [(.int t0)])
  refine own_go (fun _ => XS.istoreN X.here hx rfl (hb hby at_11) rfl (l' := #[.val (.int x0), .val (.int x1), .val (.int x2), .val (.int t0), .unset, .unset, .unset, .unset, .unset]) rfl) ?_
  show own_WP p e below _ T (mkF m 12 #[.val (.int x0), .val (.int x1), .val (.int x2), .val (.int t0), .unset, .unset, .unset, .unset, .unset] [])
  refine own_go (fun _ => XS.iloadN X.here hx rfl (hb hby at_12) rfl) ?_
  show own_WP p e below _ T (mkF m 13 #[.val (.int x0), .val (.int x1), .val (.int x2), .val (.int t0), .unset, .unset, .unset, .unset, .unset] [(.int x2)])
  refine own_go (fun _ => XS.iconst X.here hx rfl (hb hby at_13)) ?_
  show own_WP p e below _ T (mkF m 14 #[.val (.int x0), .val (.int x1), .val (.int x2), .val (.int t0), .unset, .unset, .unset, .unset, .unset] [(.int (2 : Int32)), (.int x2)])
  refine own_go (fun _ => XS.iand X.here hx rfl (hb hby at_14) rfl) ?_
  show own_WP p e below _ T (mkF m 15 #[.val (.int x0), .val (.int x1), .val (.int x2), .val (.int t0), .unset, .unset, .unset, .unset, .unset] [(.int (x2 &&& (2 : Int32)))])
  by_cases h15 : (x2 &&& (2 : Int32)) = (0 : Int32)
  · replace hv := (if_pos h15).symm.trans hv
    refine own_go (fun _ => XS.ifYes X.here hx rfl (pc0 := 15) (pc' := 22) rfl (hb hby at_15) rfl (XT.i0_eq_t h15) (by decide) (by decide)) ?_
    show own_WP p e below _ T (mkF m 22 #[.val (.int x0), .val (.int x1), .val (.int x2), .val (.int t0), .unset, .unset, .unset, .unset, .unset] [])
    refine own_go (fun _ => XS.iconst X.here hx rfl (hb hby at_22)) ?_
    exact b0_23 hw C Z0 rr hP X e0 N K x0 x1 x2 t0 (0 : Int32) hv
  · replace hv := (if_neg h15).symm.trans hv
    refine own_go (fun _ => XS.ifNo X.here hx rfl (hb hby at_15) rfl (XT.i0_eq_f h15)) ?_
    show own_WP p e below _ T (mkF m 18 #[.val (.int x0), .val (.int x1), .val (.int x2), .val (.int t0), .unset, .unset, .unset, .unset, .unset] [])
    refine own_go (fun _ => XS.iconst X.here hx rfl (hb hby at_18)) ?_
    show own_WP p e below _ T (mkF m 19 #[.val (.int x0), .val (.int x1), .val (.int x2), .val (.int t0), .unset, .unset, .unset, .unset, .unset] [(.int (1 : Int32))])
    refine own_go (fun _ => XS.goto X.here hx rfl (pc0 := 19) (pc' := 23) rfl (hb hby at_19) (by decide) (by decide)) ?_
    exact b0_23 hw C Z0 rr hP X e0 N K x0 x1 x2 t0 (1 : Int32) hv
def f0_0 (x0 : Int32) (x1 : Int32) (x2 : Int32) : Option (Int32) := (if (x2 &&& (1 : Int32)) = (0 : Int32) then (f0_11 x0 x1 x2 (0 : Int32)) else (f0_11 x0 x1 x2 (1 : Int32)))
set_option maxRecDepth 65536 in
set_option maxHeartbeats 40000000 in
theorem b0_0 {p : Program} {l : Launch} {e : Env} {s : State} {m : MethodId} {args : Array Value} {below : List Frame} {meth : Method} {c : Code} {Z : State} {a0 : Array Value} {h0 : Heap} {n0 : Nat} {P : Option Value → Heap → List Loc → Prop} (hw : ∀ d ∈ tables_1, d.before a0 Z = true) (C : own_Ctx p s m meth c Z x code maxLocals ret) (Z0 : n0 ≤ h0.size)   (rr : Int32) (hP : ∀ v h L, Fr n0 L → Keep h0 h [] → E0 Z h0  rr v h → P v h L)
    {T : State} {locs : List Loc} {h : Heap} (X : Stand p l e room_1 s m args below meth c T locs 0 0) (e0 : T.heap = h) (N : Fr n0 locs) (K : Keep h0 h []) (x0 : Int32) (x1 : Int32) (x2 : Int32) (hv : f0_0 x0 x1 x2 = some rr) :
    own_WP p e below (own_Q s P room_1.cells room_1.slots) T (mkF m 0 #[.val (.int x0), .val (.int x1), .val (.int x2), .unset, .unset, .unset, .unset, .unset, .unset] []) := by
  obtain ⟨hx, hZ, hby, hml, hown, hnm, hret, hlk⟩ := id C
  replace hown : s.vm.findClass "com/example/kvasir/kvasir/XmlVersionIsCharPinLaw" = some m.cls := hown
  unfold f0_0 at hv
  show own_WP p e below _ T (mkF m 0 #[.val (.int x0), .val (.int x1), .val (.int x2), .unset, .unset, .unset, .unset, .unset, .unset] [])
  refine own_go (fun _ => XS.iloadN X.here hx rfl (hb hby at_0) rfl) ?_
  show own_WP p e below _ T (mkF m 1 #[.val (.int x0), .val (.int x1), .val (.int x2), .unset, .unset, .unset, .unset, .unset, .unset] [(.int x2)])
  refine own_go (fun _ => XS.iconst X.here hx rfl (hb hby at_1)) ?_
  show own_WP p e below _ T (mkF m 2 #[.val (.int x0), .val (.int x1), .val (.int x2), .unset, .unset, .unset, .unset, .unset, .unset] [(.int (1 : Int32)), (.int x2)])
  refine own_go (fun _ => XS.iand X.here hx rfl (hb hby at_2) rfl) ?_
  show own_WP p e below _ T (mkF m 3 #[.val (.int x0), .val (.int x1), .val (.int x2), .unset, .unset, .unset, .unset, .unset, .unset] [(.int (x2 &&& (1 : Int32)))])
  by_cases h3 : (x2 &&& (1 : Int32)) = (0 : Int32)
  · replace hv := (if_pos h3).symm.trans hv
    refine own_go (fun _ => XS.ifYes X.here hx rfl (pc0 := 3) (pc' := 10) rfl (hb hby at_3) rfl (XT.i0_eq_t h3) (by decide) (by decide)) ?_
    show own_WP p e below _ T (mkF m 10 #[.val (.int x0), .val (.int x1), .val (.int x2), .unset, .unset, .unset, .unset, .unset, .unset] [])
    refine own_go (fun _ => XS.iconst X.here hx rfl (hb hby at_10)) ?_
    exact b0_11 hw C Z0 rr hP X e0 N K x0 x1 x2 (0 : Int32) hv
  · replace hv := (if_neg h3).symm.trans hv
    refine own_go (fun _ => XS.ifNo X.here hx rfl (hb hby at_3) rfl (XT.i0_eq_f h3)) ?_
    show own_WP p e below _ T (mkF m 6 #[.val (.int x0), .val (.int x1), .val (.int x2), .unset, .unset, .unset, .unset, .unset, .unset] [])
    refine own_go (fun _ => XS.iconst X.here hx rfl (hb hby at_6)) ?_
    show own_WP p e below _ T (mkF m 7 #[.val (.int x0), .val (.int x1), .val (.int x2), .unset, .unset, .unset, .unset, .unset, .unset] [(.int (1 : Int32))])
    refine own_go (fun _ => XS.goto X.here hx rfl (pc0 := 7) (pc' := 11) rfl (hb hby at_7) (by decide) (by decide)) ?_
    exact b0_11 hw C Z0 rr hP X e0 N K x0 x1 x2 (1 : Int32) hv
theorem ef0 (m : MethodId) (x0 : Int32) (x1 : Int32) (x2 : Int32) : entryFrame m #[(.int x0), (.int x1), (.int x2)] maxLocals = (mkF m 0 #[.val (.int x0), .val (.int x1), .val (.int x2), .unset, .unset, .unset, .unset, .unset, .unset] []) := by first | (simp [entryFrame, mkF, argsToLocals, Value.category, maxLocals]; done) | rfl
theorem pn0 : plainFor x = true := plainFor_of_name (by first | (simp [plainName, overriddenIn, x]; done) | decide +kernel)
set_option maxHeartbeats 40000000 in
theorem own_same (c b : Int32) (h0 : 0 ≤ c.toInt) (h1 : c.toInt ≤ 1114111) : f3_0 c b = f4_0 c b := by
  simp only [f3_0, f3_56, f4_0, f4_12, f4_24, f4_28, f4_29, f4_45, f4_85, Int32.lt_iff_toInt_lt, ← Int32.toInt_inj]
  have q0 : (0 : Int32).toInt = 0 := rfl
  have q1 : (1 : Int32).toInt = 1 := rfl
  have q9 : (9 : Int32).toInt = 9 := rfl
  have q10 : (10 : Int32).toInt = 10 := rfl
  have q13 : (13 : Int32).toInt = 13 := rfl
  have q32 : (32 : Int32).toInt = 32 := rfl
  have qa : (55295 : Int32).toInt = 55295 := rfl
  have qd : (57344 : Int32).toInt = 57344 := rfl
  have qe : (65533 : Int32).toInt = 65533 := rfl
  have qh : (65536 : Int32).toInt = 65536 := rfl
  have qi : (1114111 : Int32).toInt = 1114111 := rfl
  simp only [q0, q1, q9, q10, q13, q32, qa, qd, qe, qh, qi]
  generalize c.toInt = n at *
  generalize b.toInt = k at *
  by_cases hk : k = 0
  · simp only [hk, if_true, if_false]
    repeat' split
    all_goals first | rfl | (exfalso; omega)
  · simp only [hk, if_true, if_false]
    repeat' split
    all_goals first | rfl | (exfalso; omega)
theorem own_getOk {α : Type} (vs : List α) (j : Int32) (h0 : 0 ≤ j.toInt) (h1 : j.toInt < (vs.length : Int)) : ∃ w, own_get vs j = some w := by
  unfold own_get
  have e : j.toNatClampNeg = j.toInt.toNat := rfl
  have hlt : j.toNatClampNeg < vs.length := by rw [e]; omega
  rw [if_neg]
  · exact ⟨vs[j.toNatClampNeg], List.getElem?_eq_getElem hlt⟩
  · rw [Int32.lt_iff_toInt_lt]
    show ¬ j.toInt < 0
    omega
theorem own_pos (x : Int32) : 0 ≤ (x &&& (2147483647 : Int32)).toInt := by
  have q := c_mask x 2147483647 31 (by decide) (by decide +kernel)
  omega
theorem own_rem (x m : Int32) (h : 0 ≤ x.toInt) (hm : 0 < m.toInt) : 0 ≤ (x % m).toInt ∧ (x % m).toInt < m.toInt := by
  rw [Int32.toInt_mod, Int.tmod_eq_emod_of_nonneg h]
  exact ⟨Int.emod_nonneg _ (by omega), Int.emod_lt_of_pos _ hm⟩
theorem own_clamp (v : Int32) : 0 ≤ (f2_0 0 (f1_0 1114111 v)).toInt ∧ (f2_0 0 (f1_0 1114111 v)).toInt ≤ 1114111 := by
  have q0 : (0 : Int32).toInt = 0 := rfl
  have qi : (1114111 : Int32).toInt = 1114111 := rfl
  by_cases h : v < (1114111 : Int32)
  · have e : f1_0 1114111 v = v := by unfold f1_0; rw [if_pos h]
    rw [e]
    unfold f2_0
    rw [Int32.lt_iff_toInt_lt, qi] at h
    split
    · rename_i k
      rw [Int32.lt_iff_toInt_lt, q0] at k
      omega
    · rw [q0]; omega
  · have e : f1_0 1114111 v = 1114111 := by unfold f1_0; rw [if_neg h]
    rw [e]
    have k : f2_0 0 1114111 = 1114111 := by decide
    rw [k, qi]; omega
theorem own_23 (x0 x1 x3 t : Int32) : f0_23 x0 x1 x3 t = some 1 := by
  unfold f0_23 own_let
  dsimp only
  split
  · obtain ⟨h0, h1⟩ := own_rem (x1 &&& (2147483647 : Int32)) (1114112 : Int32) (own_pos x1) (by decide)
    have e : (1114112 : Int32).toInt = 1114112 := rfl
    rw [own_same _ _ h0 (by omega), if_pos rfl]
  · obtain ⟨h0, h1⟩ := own_rem (x0 &&& (2147483647 : Int32)) (12 : Int32) (own_pos x0) (by decide)
    obtain ⟨w, hw⟩ := own_getOk [(0 : Int32), (1 : Int32), (9 : Int32), (10 : Int32), (13 : Int32), (31 : Int32), (32 : Int32), (55295 : Int32), (57344 : Int32), (65533 : Int32), (65536 : Int32), (1114111 : Int32)] _ h0 h1
    rw [hw]
    simp only [Option.bind_some]
    obtain ⟨k0, k1⟩ := own_clamp (w + x1 % (3 : Int32))
    rw [own_same _ _ k0 k1, if_pos rfl]
theorem plain0 (x0 x1 x2 : Int32) : f0_0 x0 x1 x2 = some 1 := by
  simp only [f0_0, f0_11, own_23]
  repeat' split
  all_goals rfl
theorem rm0 (l : Launch) (Z : State) (a0 : Array Value) (hw : ∀ d ∈ tables_1, d.before a0 Z = true) (ws : List Jvm.Cond) (x0 : Int32) (x1 : Int32) (x2 : Int32) (h0 : Heap) : own_Met l Z x code maxLocals ret ws room_1 #[(.int x0), (.int x1), (.int x2)] h0 (fun v h L => v = some (.int 1) ∧ Fr h0.size L) := by
  refine own_body pn0 ?_
  intro p e s m below meth c s₁ C X e0
  exact own_cast (ef0 m x0 x1 x2) (b0_0 hw C (Nat.le_refl h0.size) (1 : Int32) (fun v h L a b c => ⟨c, a⟩) X e0 (Fr.nil _) (Keep.refl h0 []) x0 x1 x2 (plain0 x0 x1 x2))
set_option maxRecDepth 65536 in
set_option maxHeartbeats 40000000 in
theorem comes_1 {Post : Tables → Env → Array Value → State → Outcome → State → Prop} (hpost : ∀ tb e args s v u, (limb_1_1.after args s (.returned v) u = true ∧ limb_1_2.after args s (.returned v) u = true ∧ True) → FrameEnd s (.returned v) u (Jvm.fieldLocs frame_1_writes args s ++ Jvm.arrayLocs frame_1_arrays args s ++ Jvm.staticLocs frame_1_statics s) 16 128 → Post tb e args s (.returned v) u) :
    ArmFor flags0 classFile x code maxLocals ret World_1 tables_1 room_1 Calls_1 rest_1 Pre_1 Post := by
  intro l hfl _ _ p e ha hc hk s m args below hf hA hF happ hP
  obtain ⟨hcalls, hrest, hpre⟩ := hP
  obtain ⟨-, -, -, hnamed, -, -, -, hat⟩ := (Spec.applies_iff hf).mp happ
  obtain ⟨hg, hn⟩ := and_e (Cond.before_iff.mp (show (Jvm.Cond.and given_1 narrow_1).before args s = true from hpre))
  obtain ⟨hcnt, hg0⟩ := and_e hg
  obtain ⟨ha0, hg1⟩ := and_e hg0
  obtain ⟨ha1, hg2⟩ := and_e hg1
  have ha2 := hg2
  obtain ⟨w0, w1, w2, rfl⟩ : ∃ w0 w1 w2 : Value, args = #[w0, w1, w2] := by
    have hs : args.size = 3 := by simpa [Cond.value, given_1] using hcnt
    obtain ⟨L⟩ := args
    match L, hs with
    | [w0, w1, w2], _ => exact ⟨w0, w1, w2, rfl⟩
  have hw := fun d (hd : d ∈ tables_1) => atoms_spec (ws := Jvm.Cond.code x code maxLocals ret :: tables_1) hat d (List.mem_cons_of_mem _ hd)
  obtain ⟨i0, ei0⟩ := is_v ha0
  obtain rfl : w0 = (.int i0) := Option.some.inj ei0
  obtain ⟨i1, ei1⟩ := is_v ha1
  obtain rfl : w1 = (.int i1) := Option.some.inj ei1
  obtain ⟨i2, ei2⟩ := is_v ha2
  obtain rfl : w2 = (.int i2) := Option.some.inj ei2
  obtain ⟨n, o, h1, h2, h3, _, L, rfl, ⟨rfl, N⟩, hq⟩ := rm0 l s _ hw tables_1 i0 i1 i2 s.heap p e ha hc hk s m _ below hf ((Spec.applies_iff_loose hf).mp happ).1 ⟨rfl, State.Warmed39.refl s, rfl⟩ trivial
  refine ⟨n, _, h1, h2, h3, hpost _ _ _ _ _ _ ⟨Cond.after_iff.mpr rfl, Cond.after_iff.mpr (eq_i res_at (Term.int_eval (1)) rfl), trivial⟩ ⟨hq.1, hq.2.1, (hq.2.2.sift fun y hy => Or.inr (N y hy)).mono (by decide) (by decide)⟩⟩
theorem main_1_1 : Claimed_1_1 := comes_1 fun _ _ _ _ _ _ h hF => ⟨h.1, hF⟩
theorem main_1_2 : Claimed_1_2 := comes_1 fun _ _ _ _ _ _ h hF => ⟨h.2.1, hF⟩
end Jvm.Pilot.@@N@@
namespace Jvm.Pilot.@@N@@
open Jvm Jvm.ClassFile Sem Op Lib Jvm.Free Jvm.Stand Jvm.Pilot.@@N@@.Jvm.D
/-! MADE BY PROGRAM (witnessworld.py) out of the Statement's table words and the real class files: 10 classes; the members and pool entries that the words name. The judged class is class 1, her method 1. -/
namespace start1
open Jvm.ClassFile
def u (s : String) : CpInfo := .utf8 (stringToUtf16 s)
/-- a pool by its gaps: so many unusable entries, then the entry; so many at the end -/
def gap : Nat → List CpInfo → List CpInfo
  | 0, r => r
  | n + 1, r => .unusable :: gap n r
def poolList (es : List (Nat × CpInfo)) (last : Nat) : List CpInfo := es.foldr (fun e r => gap e.1 (e.2 :: r)) (gap last [])
def pool (es : List (Nat × CpInfo)) (last : Nat) : Array CpInfo := ⟨poolList es last⟩
def fileOf (pool : Array CpInfo) (this : Nat) (attrs : Array Attribute := #[]) (ms : Array MethodInfo := #[]) (fl : Nat := 33) (sup : Nat := 0) (ifs : Array Nat := #[]) (fds : Array FieldInfo := #[]) : ClassFile where
  minorVersion := 0
  majorVersion := 65
  constantPool := pool
  accessFlags := fl
  thisClass := this
  superClass := sup
  interfaces := ifs
  fields := fds
  methods := ms
  attributes := attrs
def plain (name : String) (sup : Option ClassId) : Class where
  name := name
  kind := .ordinary
  loader := none
  accessFlags := 33
  super := sup
  interfaces := #[]
  cf := none
  fields := #[]
  methods := #[]
  instanceTypes := #[]
  staticTypes := #[]
  resolved := #[]
  callSites := []
  init := .initialized
  statics := none
  mirror := none

def pool0 : Array CpInfo := pool [(5, u "<init>"), (0, u "()V"), (1, .class_ 10), (1, u "java/lang/Object")] 113

def k0m0 : Method := { name := "<init>", desc := "()V", sig := { parameters := [], returnType := none }, accessFlags := 1, code := none }
/-- java/lang/Object -/
def k0 : Class := { plain "java/lang/Object" none with
  accessFlags := 33
  interfaces := #[]
  cf := some (fileOf pool0 8 #[] #[{ accessFlags := 1, nameIndex := 5, descriptorIndex := 6, attributes := #[] }] 33 0 #[] #[])
  fields := #[]
  methods := #[k0m0]
  instanceTypes := #[]
  staticTypes := #[]
  resolved := Array.replicate 124 none
  statics := none }

def pool1 : Array CpInfo := pool [(2, .class_ 4), (1, u "java/lang/Object"), (0, u "<init>"), (0, u "()V"), (0, .integer 55295), (0, .integer 57344), (0, .integer 65533), (0, .integer 65536), (0, .integer 1114111), (0, .integer 2147483647), (0, .methodref 14 15), (0, .class_ 16), (0, .nameAndType 17 18), (0, u "java/lang/Math"), (0, u "min"), (0, u "(II)I"), (0, .methodref 14 20), (0, .nameAndType 21 18), (0, u "max"), (0, .integer 1114112), (0, .methodref 24 25), (0, .class_ 26), (0, .nameAndType 27 28), (0, u "com/example/kvasir/kvasir/XmlVersion"), (0, u "isChar"), (0, u "(IZ)Z"), (0, .methodref 30 31), (0, .class_ 32), (0, .nameAndType 33 28), (0, u "com/example/kvasir/kvasir/XmlVersionIsCharPinLaw"), (0, u "reference"), (2, u "law"), (0, u "(III)Z")] 3

def k1m0 : Method := { name := "<init>", desc := "()V", sig := { parameters := [], returnType := none }, accessFlags := 2, code := none }
def k1c1 : Code := { maxStack := 4, maxLocals := 9, code := code, exceptionTable := #[], attributes := #[] }
def k1m1 : Method := { name := "law", desc := "(III)Z", sig := { parameters := [.int, .int, .int], returnType := some .boolean }, accessFlags := 9, code := some k1c1 }
def k1c2 : Code := { maxStack := 2, maxLocals := 3, code := method_3_code, exceptionTable := #[], attributes := #[] }
def k1m2 : Method := { name := "reference", desc := "(IZ)Z", sig := { parameters := [.int, .boolean], returnType := some .boolean }, accessFlags := 10, code := some k1c2 }
/-- com/example/kvasir/kvasir/XmlVersionIsCharPinLaw -/
def k1 : Class := { plain "com/example/kvasir/kvasir/XmlVersionIsCharPinLaw" (some 0) with
  accessFlags := 49
  interfaces := #[]
  cf := some (fileOf pool1 30 #[] #[{ accessFlags := 2, nameIndex := 5, descriptorIndex := 6, attributes := #[] }, { accessFlags := 9, nameIndex := 36, descriptorIndex := 37, attributes := #[] }, { accessFlags := 10, nameIndex := 33, descriptorIndex := 28, attributes := #[] }] 49 2 #[] #[])
  fields := #[]
  methods := #[k1m0, k1m1, k1m2]
  instanceTypes := #[]
  staticTypes := #[]
  resolved := Array.replicate 41 none
  statics := none }

def pool2 : Array CpInfo := pool [(1, .class_ 2), (0, u "java/lang/Math"), (1, .class_ 6), (1, u "java/lang/Object"), (0, u "<init>"), (0, u "()V"), (89, .class_ 100), (1, u "java/lang/Math$RandomNumberGeneratorHolder"), (71, u "negativeZeroFloatBits"), (0, u "J"), (2, u "negativeZeroDoubleBits"), (21, u "max"), (2, u "min"), (43, u "$assertionsDisabled"), (0, u "Z"), (88, u "(II)I"), (2, u "twoToTheDoubleScaleDown"), (0, u "D"), (4, u "twoToTheDoubleScaleUp"), (9, u "E"), (3, u "PI"), (2, u "TAU"), (2, u "DEGREES_TO_RADIANS"), (0, u "RADIANS_TO_DEGREES")] 94

def k2m0 : Method := { name := "<init>", desc := "()V", sig := { parameters := [], returnType := none }, accessFlags := 2, code := none }
def k2c1 : Code := { maxStack := 2, maxLocals := 2, code := jdk_29_method_65_code, exceptionTable := #[], attributes := #[] }
def k2m1 : Method := { name := "max", desc := "(II)I", sig := { parameters := [.int, .int], returnType := some .int }, accessFlags := 9, code := some k2c1 }
def k2c2 : Code := { maxStack := 2, maxLocals := 2, code := jdk_29_method_69_code, exceptionTable := #[], attributes := #[] }
def k2m2 : Method := { name := "min", desc := "(II)I", sig := { parameters := [.int, .int], returnType := some .int }, accessFlags := 9, code := some k2c2 }
/-- java/lang/Math -/
def k2 : Class := { plain "java/lang/Math" (some 0) with
  accessFlags := 49
  interfaces := #[]
  cf := some (fileOf pool2 1 #[.nestMembers #[98]] #[{ accessFlags := 2, nameIndex := 7, descriptorIndex := 8, attributes := #[] }, { accessFlags := 9, nameIndex := 198, descriptorIndex := 335, attributes := #[] }, { accessFlags := 9, nameIndex := 201, descriptorIndex := 335, attributes := #[] }] 49 4 #[] #[{ accessFlags := 25, nameIndex := 354, descriptorIndex := 339, attributes := #[] }, { accessFlags := 25, nameIndex := 358, descriptorIndex := 339, attributes := #[] }, { accessFlags := 25, nameIndex := 361, descriptorIndex := 339, attributes := #[] }, { accessFlags := 26, nameIndex := 364, descriptorIndex := 339, attributes := #[] }, { accessFlags := 26, nameIndex := 365, descriptorIndex := 339, attributes := #[] }, { accessFlags := 26, nameIndex := 172, descriptorIndex := 173, attributes := #[] }, { accessFlags := 26, nameIndex := 176, descriptorIndex := 173, attributes := #[] }, { accessFlags := 8, nameIndex := 344, descriptorIndex := 339, attributes := #[] }, { accessFlags := 8, nameIndex := 338, descriptorIndex := 339, attributes := #[] }, { accessFlags := 4120, nameIndex := 245, descriptorIndex := 246, attributes := #[] }])
  fields := #[{ name := "E", type := .double, accessFlags := 25, slot := 0, constantValue := 0 }, { name := "PI", type := .double, accessFlags := 25, slot := 1, constantValue := 0 }, { name := "TAU", type := .double, accessFlags := 25, slot := 2, constantValue := 0 }, { name := "DEGREES_TO_RADIANS", type := .double, accessFlags := 26, slot := 3, constantValue := 0 }, { name := "RADIANS_TO_DEGREES", type := .double, accessFlags := 26, slot := 4, constantValue := 0 }, { name := "negativeZeroFloatBits", type := .long, accessFlags := 26, slot := 5, constantValue := 0 }, { name := "negativeZeroDoubleBits", type := .long, accessFlags := 26, slot := 6, constantValue := 0 }, { name := "twoToTheDoubleScaleUp", type := .double, accessFlags := 8, slot := 7, constantValue := 0 }, { name := "twoToTheDoubleScaleDown", type := .double, accessFlags := 8, slot := 8, constantValue := 0 }, { name := "$assertionsDisabled", type := .boolean, accessFlags := 4120, slot := 9, constantValue := 0 }]
  methods := #[k2m0, k2m1, k2m2]
  instanceTypes := #[]
  staticTypes := #[.double, .double, .double, .double, .double, .long, .long, .double, .double, .boolean]
  resolved := Array.replicate 460 none
  statics := none }

def pool3 : Array CpInfo := pool [(2, .class_ 4), (1, u "java/lang/Object"), (0, u "<init>"), (0, u "()V"), (9, .class_ 18), (1, u "com/example/kvasir/kvasir/XmlVersion"), (20, u "(IZ)Z"), (2, u "isChar"), (98, .integer 55295), (0, .integer 57344), (0, .integer 65533), (0, .integer 65536)] 26

def k3m0 : Method := { name := "<init>", desc := "()V", sig := { parameters := [], returnType := none }, accessFlags := 2, code := none }
def k3c1 : Code := { maxStack := 2, maxLocals := 2, code := prog_188_method_13_code, exceptionTable := #[], attributes := #[] }
def k3m1 : Method := { name := "isChar", desc := "(IZ)Z", sig := { parameters := [.int, .boolean], returnType := some .boolean }, accessFlags := 8, code := some k3c1 }
/-- com/example/kvasir/kvasir/XmlVersion -/
def k3 : Class := { plain "com/example/kvasir/kvasir/XmlVersion" (some 0) with
  accessFlags := 48
  interfaces := #[]
  cf := some (fileOf pool3 16 #[] #[{ accessFlags := 2, nameIndex := 5, descriptorIndex := 6, attributes := #[] }, { accessFlags := 8, nameIndex := 42, descriptorIndex := 39, attributes := #[] }] 48 2 #[] #[])
  fields := #[]
  methods := #[k3m0, k3m1]
  instanceTypes := #[]
  staticTypes := #[]
  resolved := Array.replicate 171 none
  statics := none }

def pool4 : Array CpInfo := pool [(1, u "java/lang/Cloneable"), (0, .class_ 1), (0, u "java/lang/Object"), (0, .class_ 3)] 3

/-- java/lang/Cloneable -/
def k4 : Class := { plain "java/lang/Cloneable" (some 0) with
  accessFlags := 1537
  interfaces := #[]
  cf := some (fileOf pool4 2 #[] #[] 1537 4 #[] #[])
  fields := #[]
  methods := #[]
  instanceTypes := #[]
  staticTypes := #[]
  resolved := Array.replicate 8 none
  statics := none }

def pool5 : Array CpInfo := pool [(1, u "java/io/Serializable"), (0, .class_ 1), (0, u "java/lang/Object"), (0, .class_ 3)] 3

/-- java/io/Serializable -/
def k5 : Class := { plain "java/io/Serializable" (some 0) with
  accessFlags := 1537
  interfaces := #[]
  cf := some (fileOf pool5 2 #[] #[] 1537 4 #[] #[])
  fields := #[]
  methods := #[]
  instanceTypes := #[]
  staticTypes := #[]
  resolved := Array.replicate 8 none
  statics := none }

/-- the primitive byte -/
def k6 : Class := { plain "byte" none with kind := .primitive 'B', accessFlags := 0x411 }
/-- [B -/
def k7 : Class := { plain "[B" (some 0) with kind := .array 6 .byte, interfaces := #[4, 5], accessFlags := 1041 }

/-- the primitive int -/
def k8 : Class := { plain "int" none with kind := .primitive 'I', accessFlags := 0x411 }
/-- [I -/
def k9 : Class := { plain "[I" (some 0) with kind := .array 8 .int, interfaces := #[4, 5], accessFlags := 1041 }

def heap : Heap := #[]
def classes : Array Class := #[k0, k1, k2, k3, k4, k5, k6, k7, k8, k9]
def interned : List (Array UInt16 × Addr) := []
def slotsUsed : Nat := 0
def theMethod : MethodId := ⟨1, 1⟩
def args0 : Array Value := #[.int 5, .int 5, .int 5]
def aboutOver (below : List Frame) : State where
  vm := { classes := classes, interned := interned.toArray }
  heap := heap
  slotsUsed := slotsUsed
  threads := #[{ frames := .invoking theMethod args0 :: below }]
def below0 : List Frame := [.native { method := ⟨0, 0⟩, args := #[] }]
def about1 : State := aboutOver below0
def p0 : Program := .bare "" "" ""
def e0 : Env := launch0.env 0 0 0
theorem w_frames : about1.frames = Frame.invoking theMethod args0 :: below0 := rfl
set_option maxRecDepth 65536 in
theorem w_args : argsFit about1.vm theMethod args0 = true := by decide +kernel
set_option maxRecDepth 65536 in
theorem w_heap : heapFits about1 = true := by decide +kernel
set_option maxRecDepth 65536 in
theorem w_runnable : about1.curStatus? = some .runnable := by decide +kernel
set_option maxRecDepth 65536 in
theorem w_alone : about1.alone = true := by decide +kernel
set_option maxRecDepth 65536 in
theorem w_named : about1.methodNamed? x = some theMethod := by decide +kernel
set_option maxRecDepth 65536 in
theorem w_hears : about1.hears theMethod below0 = true := by decide +kernel
set_option maxRecDepth 65536 in
theorem w_ripe : about1.ripe theMethod args0 below0 = true := by decide +kernel
theorem w_running : about1.status = .running := rfl
set_option maxRecDepth 65536 in
theorem w_room : about1.hasRoom e0.platform room_1 = true :=
  launch0.hasRoom_least _ room_1 (by decide +kernel) (by decide +kernel) (by decide +kernel) (by decide +kernel) (by decide +kernel) (by decide +kernel)
theorem allAtoms_all (ts : List Jvm.Cond) (a : Array Jvm.Value) (st : Jvm.State) : (allAtoms ts).before a st = ts.all (fun c => c.before a st) := by
  induction ts with
  | nil => rfl
  | cons c t ih =>
    show (Jvm.Cond.and c (allAtoms t)).before a st = _
    rw [Jvm.Cond.before_and, ih, List.all_cons]
def words1 : List Jvm.Cond := Jvm.Cond.code x code maxLocals ret :: tables_1
/-- a 'code' word, met by the world's own term for the bytes: nothing is compared byte by byte -/
theorem code_word {y : MethodName} {bytes : ByteArray} {mx : Nat} {rt : Option FieldType} {a : Array Value} {s : State} {m : MethodId} {meth : Method} {c : Code} (h1 : s.methodNamed? y = some m) (h2 : s.vm.method? m = some meth) (h3 : meth.code = some c) (h4 : c.code = bytes)
    (h5 : (c.maxLocals == mx && c.exceptionTable.isEmpty && decide (c.maxStack ≤ mostOperands) && decide (meth.sig.returnType = rt) && !meth.locks && decide (parseMethodDescriptor y.desc = some meth.sig)) = true) : (Jvm.Cond.code y bytes mx rt).before a s = true := by
  simp only [Bool.and_eq_true, beq_iff_eq, Bool.not_eq_true', decide_eq_true_eq] at h5
  obtain ⟨⟨⟨⟨⟨g1, g2⟩, g3⟩, g4⟩, g5⟩, g6⟩ := h5
  simp [Cond.before, Cond.holds, Cond.value, h1, h2, h3, h4, g1, g2, g3, g4, g5, g6]
def isCode : Jvm.Cond → Bool
  | .code _ _ _ _ => true
  | _ => false
theorem all_split {L : List Jvm.Cond} {P : Jvm.Cond → Bool} (h1 : L.all (fun c => isCode c || P c) = true) (h2 : ∀ c ∈ L.filter isCode, P c = true) : L.all P = true := by
  refine List.all_eq_true.mpr fun c hc => ?_
  have h := List.all_eq_true.mp h1 c hc
  rcases Bool.eq_false_or_eq_true (isCode c) with hi | hi
  · exact h2 c (List.mem_filter.mpr ⟨hc, hi⟩)
  · simpa [hi] using h
set_option maxRecDepth 65536 in
theorem w_c0 : (Jvm.Cond.code x code maxLocals ret).before args0 about1 = true := code_word (m := ⟨1, 1⟩) (meth := k1m1) (c := k1c1) (by decide +kernel) rfl rfl rfl (by decide +kernel)
set_option maxRecDepth 65536 in
theorem w_c1 : (Jvm.Cond.code ({ cls := "java/lang/Math", name := "min", desc := "(II)I" } : Jvm.MethodName) jdk_29_method_69_code (2 : Nat) (Option.some Jvm.ClassFile.FieldType.int)).before args0 about1 = true := code_word (m := ⟨2, 2⟩) (meth := k2m2) (c := k2c2) (by decide +kernel) rfl rfl rfl (by decide +kernel)
set_option maxRecDepth 65536 in
theorem w_c2 : (Jvm.Cond.code ({ cls := "java/lang/Math", name := "max", desc := "(II)I" } : Jvm.MethodName) jdk_29_method_65_code (2 : Nat) (Option.some Jvm.ClassFile.FieldType.int)).before args0 about1 = true := code_word (m := ⟨2, 1⟩) (meth := k2m1) (c := k2c1) (by decide +kernel) rfl rfl rfl (by decide +kernel)
set_option maxRecDepth 65536 in
theorem w_c3 : (Jvm.Cond.code ({ cls := "com/example/kvasir/kvasir/XmlVersion", name := "isChar", desc := "(IZ)Z" } : Jvm.MethodName) prog_188_method_13_code (2 : Nat) (Option.some Jvm.ClassFile.FieldType.boolean)).before args0 about1 = true := code_word (m := ⟨3, 1⟩) (meth := k3m1) (c := k3c1) (by decide +kernel) rfl rfl rfl (by decide +kernel)
set_option maxRecDepth 65536 in
theorem w_c4 : (Jvm.Cond.code ({ cls := "com/example/kvasir/kvasir/XmlVersionIsCharPinLaw", name := "reference", desc := "(IZ)Z" } : Jvm.MethodName) method_3_code (3 : Nat) (Option.some Jvm.ClassFile.FieldType.boolean)).before args0 about1 = true := code_word (m := ⟨1, 2⟩) (meth := k1m2) (c := k1c2) (by decide +kernel) rfl rfl rfl (by decide +kernel)
def codes1 : List Jvm.Cond := [Jvm.Cond.code x code maxLocals ret, Jvm.Cond.code ({ cls := "java/lang/Math", name := "min", desc := "(II)I" } : Jvm.MethodName) jdk_29_method_69_code (2 : Nat) (Option.some Jvm.ClassFile.FieldType.int), Jvm.Cond.code ({ cls := "java/lang/Math", name := "max", desc := "(II)I" } : Jvm.MethodName) jdk_29_method_65_code (2 : Nat) (Option.some Jvm.ClassFile.FieldType.int), Jvm.Cond.code ({ cls := "com/example/kvasir/kvasir/XmlVersion", name := "isChar", desc := "(IZ)Z" } : Jvm.MethodName) prog_188_method_13_code (2 : Nat) (Option.some Jvm.ClassFile.FieldType.boolean), Jvm.Cond.code ({ cls := "com/example/kvasir/kvasir/XmlVersionIsCharPinLaw", name := "reference", desc := "(IZ)Z" } : Jvm.MethodName) method_3_code (3 : Nat) (Option.some Jvm.ClassFile.FieldType.boolean)]
set_option maxRecDepth 65536 in
theorem codes_eq : words1.filter isCode = codes1 := rfl
theorem w_codes : ∀ c ∈ words1.filter isCode, c.before args0 about1 = true := by
  rw [codes_eq]
  intro c hc
  simp only [codes1, List.mem_cons, List.not_mem_nil, or_false] at hc
  rcases hc with rfl | rfl | rfl | rfl | rfl
  · exact w_c0
  · exact w_c1
  · exact w_c2
  · exact w_c3
  · exact w_c4
set_option maxRecDepth 65536 in
theorem w_t1 : (words1.take 24).all (fun c => isCode c || c.before args0 about1) = true := by decide +kernel
set_option maxRecDepth 65536 in
theorem w_t2 : (words1.drop 24).all (fun c => isCode c || c.before args0 about1) = true := by decide +kernel
theorem w_tables : (allAtoms (Jvm.Cond.code x code maxLocals ret :: tables_1)).before args0 about1 = true := by
  rw [allAtoms_all]
  show words1.all (fun c => c.before args0 about1) = true
  refine all_split ?_ w_codes
  rw [← List.take_append_drop 24 words1, List.all_append, w_t1, w_t2]
  rfl
set_option maxRecDepth 65536 in
theorem w_case : (Jvm.Cond.and given_1 narrow_1).before args0 about1 = true := by decide +kernel
theorem w_applies : (headSpec (Jvm.Cond.code x code maxLocals ret :: tables_1) room_1).applies x e0.platform about1 = true :=
  (Spec.applies_iff w_frames).mpr ⟨w_running, w_runnable, w_alone, w_named, w_hears, w_ripe, w_room, w_tables⟩
theorem atStart : AtStart classFile x code maxLocals ret World_1 tables_1 room_1 Calls_1 rest_1 Pre_1 launch0 p0 e0 about1 theMethod args0 below0 :=
  ⟨lists_1, trivial, launch0.admits_env _ _ _, launch0.least_env, fairChoices_fair.cas, fairChoices_fair.clock, w_frames, w_args, w_heap, w_applies, trivial, trivial, w_case⟩
end start1
theorem witness_1 : WitnessClaimed_1 := ⟨start1.p0, start1.e0, start1.about1, start1.theMethod, start1.args0, start1.below0, start1.atStart⟩
end Jvm.Pilot.@@N@@
