import JvmDerived
import JvmDerived.Pilot.@@N@@Statement
import JvmDerived.Pilot.@@N@@Code
set_option linter.unusedVariables false
set_option linter.unusedSimpArgs false
namespace Jvm.RoadKit
open Sem ClassFile Op Lib Jvm.Stand Jvm.Free Jvm.LawKit
section New
variable {p : Program} {l : Launch} {e : Env} {R : Room} {s : State} {m : MethodId} {args : Array Value} {below : List Frame} {meth : Method} {c : Code} {T : State} {locs : List Loc} {cells slots : Nat}
theorem retI (X : Stand p l e R s m args below meth c T locs cells slots) (hx : p.tables.exec = Jvm.exec) {pc : Nat} {Ls : Array Slot} {z : Int32} {rest : List Value} (hret : meth.sig.returnType = some .int) (hd : decode c.code pc = .ok (.ireturn, 1)) {fs : List Frame}
    (hl : ∀ (f : JFrame) (acts : List Action), f.method = m → f.locked = none → f.entered = [] → (doReturn e (T.setTop f) acts (some (.int z))).1 = T.setFrames fs) : Steps p.tables e below (T.setTop (mkF m pc Ls (.int z :: rest))) (T.setFrames fs) := by
  have hm' : T.vm.method? m = some meth := X.method'
  have hn : narrow .int (.int z) = .int z := rfl
  show Steps p.tables e below (T.setTop { method := m, pc := pc, locals := Ls, stack := _ :: rest, locked := none }) _
  jvm_step X.here [X.here.top, hx, hd, hm', hret, hn]
  first | (intro acts; rw [hl _ acts rfl rfl rfl]) | rw [hl _ _ rfl rfl rfl]
  exact Steps.refl _
end New
end Jvm.RoadKit
namespace Jvm.Pilot.@@N@@
open Jvm Jvm.ClassFile Sem Op Lib Jvm.Free Jvm.Stand Jvm.LawKit Jvm.RoadKit Bundle Jvm.Pilot.@@N@@.Jvm.D
/-- what is still to come: from the frame g at T the run comes to an end that Q takes -/
def own_WP (p : Program) (e : Env) (below : List Frame) (Q : Outcome → State → Prop) (T : State) (g : JFrame) : Prop :=
  ∃ s₂ o, Steps p.tables e below (T.setTop g) s₂ ∧ s₂.status = .running ∧ Ended s₂ below o ∧ Q o s₂
def own_Q (s : State) (P : Option Value → Heap → List Loc → Prop) (C S : Nat) (o : Outcome) (U : State) : Prop :=
  ∃ v L, o = .returned v ∧ P v U.heap L ∧ FrameEnd s o U L C S
def own_Ctx (p : Program) (s : State) (m : MethodId) (meth : Method) (c : Code) (Z : State) (y : MethodName) (bytes : ByteArray) (maxL : Nat) (rt : Option FieldType) : Prop :=
  p.tables.exec = Jvm.exec ∧ Z.Warmed39 s.vm ∧ c.code = bytes ∧ c.maxLocals = maxL ∧ s.vm.findClass y.cls = some m.cls ∧ meth.name = y.name ∧ meth.sig.returnType = rt ∧ meth.locks = false
def own_Met (l : Launch) (Z : State) (y : MethodName) (bytes : ByteArray) (maxL : Nat) (rt : Option FieldType) (ws : List Jvm.Cond) (rm : Room) (as' : Array Value) (h : Heap) (P : Option Value → Heap → List Loc → Prop) : Prop :=
  MetFree l y (head1 (Jvm.Cond.code y bytes maxL rt :: ws) rm) (fun a U => a = as' ∧ Z.Warmed39 U.vm ∧ U.heap = h) (fun _ _ _ _ _ => True) (fun _ U o U' => ∃ v L, o = .returned v ∧ P v U'.heap L ∧ FrameEnd U o U' L rm.cells rm.slots)
section Own
variable {p : Program} {l : Launch} {e : Env} {R : Room} {s : State} {m : MethodId} {args : Array Value} {below : List Frame} {meth : Method} {c : Code} {T T' : State} {locs : List Loc} {cells slots : Nat} {Z : State} {a0 : Array Value} {y : MethodName} {bytes : ByteArray} {maxL : Nat} {rt : Option FieldType} {P : Option Value → Heap → List Loc → Prop} {Q : Outcome → State → Prop}
theorem own_go {g g' : JFrame} (st : ∀ t, Steps p.tables e below (T'.setTop g') t → Steps p.tables e below (T.setTop g) t) (h : own_WP p e below Q T' g') : own_WP p e below Q T g := by
  obtain ⟨s₂, o, h1, h2⟩ := h
  exact ⟨s₂, o, st _ h1, h2⟩
theorem own_body {ws : List Jvm.Cond} {rm : Room} {as' : Array Value} {h : Heap} (hp : plainFor y = true)
    (body : ∀ p e s m below meth c s₁, own_Ctx p s m meth c Z y bytes maxL rt → Stand p l e rm s m as' below meth c s₁ [] 0 0 → s₁.heap = h → own_WP p e below (own_Q s P rm.cells rm.slots) s₁ (entryFrame m as' maxL)) :
    own_Met l Z y bytes maxL rt ws rm as' h P := by
  refine MetFree.of_bodySF hp hisR ?_
  intro p e s m args below meth c s₁ Bd hml0 hP hK
  obtain ⟨rfl, hZ, hh⟩ := hP
  exact body p e s m below meth c s₁ ⟨Bd.exec, hZ, Bd.bytes, hml0, findClass_of_methodNamed Bd.named, (name_of_methodNamed Bd.named Bd.method).1, Bd.returns, Bd.notSynchronized⟩ (Stand.of_body Bd) (by rw [← hh, Bd.state]; rfl)
theorem own_cast {g g' : JFrame} (q : g = g') (k : own_WP p e below Q T g') : own_WP p e below Q T g := q ▸ k
theorem own_retI (X : Stand p l e R s m args below meth c T locs cells slots) (C : own_Ctx p s m meth c Z y bytes maxL (some .int)) {pc : Nat} {Ls : Array Slot} {z : Int32} {rest : List Value} {CC SS : Nat}
    (hd : decode c.code pc = .ok (.ireturn, 1)) (hP : P (some (.int z)) T.heap locs) (hc : cells ≤ CC) (hs : slots ≤ SS) : own_WP p e below (own_Q s P CC SS) T (mkF m pc Ls (.int z :: rest)) := by
  obtain ⟨hx, -, -, -, -, -, hr, hlk⟩ := C
  obtain ⟨fs, hrr, hrun, hended, hW, hsame⟩ := X.leave (v := some (.int z)) (fun h => by rw [hr] at h; cases h) hlk
  exact ⟨_, _, retI X hx hr hd hrr, hrun, hended, _, _, rfl, hP, ⟨_, rfl⟩, hW, hsame.mono hc hs⟩
theorem own_retN {t : FieldType} (X : Stand p l e R s m args below meth c T locs cells slots) (C : own_Ctx p s m meth c Z y bytes maxL (some t)) (ht : t = .boolean ∨ t = .byte ∨ t = .char ∨ t = .short) {pc : Nat} {Ls : Array Slot} {z : Int32} {rest : List Value} {CC SS : Nat}
    (hd : decode c.code pc = .ok (.ireturn, 1)) (hP : P (some (.int (nar t z))) T.heap locs) (hc : cells ≤ CC) (hs : slots ≤ SS) : own_WP p e below (own_Q s P CC SS) T (mkF m pc Ls (.int z :: rest)) := by
  obtain ⟨hx, -, -, -, -, -, hr, hlk⟩ := C
  obtain ⟨fs, hrr, hrun, hended, hW, hsame⟩ := X.leave (v := some (.int (nar t z))) (fun h => by rw [hr] at h; cases h) hlk
  exact ⟨_, _, retN X hx hr ht hd hrr, hrun, hended, _, _, rfl, hP, ⟨_, rfl⟩, hW, hsame.mono hc hs⟩
theorem own_retL (X : Stand p l e R s m args below meth c T locs cells slots) (C : own_Ctx p s m meth c Z y bytes maxL (some .long)) {pc : Nat} {Ls : Array Slot} {z : Int64} {CC SS : Nat}
    (hd : decode c.code pc = .ok (.lreturn, 1)) (hP : P (some (.long z)) T.heap locs) (hc : cells ≤ CC) (hs : slots ≤ SS) : own_WP p e below (own_Q s P CC SS) T (mkF m pc Ls [.long z]) := by
  obtain ⟨hx, -, -, -, -, -, hr, hlk⟩ := C
  obtain ⟨fs, hrr, hrun, hended, hW, hsame⟩ := X.leave (v := some (.long z)) (fun h => by rw [hr] at h; cases h) hlk
  exact ⟨_, _, X.lreturnOut hx hr hd hrr, hrun, hended, _, _, rfl, hP, ⟨_, rfl⟩, hW, hsame.mono hc hs⟩
theorem own_retV (X : Stand p l e R s m args below meth c T locs cells slots) (C : own_Ctx p s m meth c Z y bytes maxL none) {pc : Nat} {Ls : Array Slot} {CC SS : Nat}
    (hd : decode c.code pc = .ok (.return_, 1)) (hP : P none T.heap locs) (hc : cells ≤ CC) (hs : slots ≤ SS) : own_WP p e below (own_Q s P CC SS) T (mkF m pc Ls []) := by
  obtain ⟨hx, -, -, -, -, -, hr, hlk⟩ := C
  obtain ⟨fs, hrr, hrun, hended, hW, hsame⟩ := X.leave (v := none) (fun _ => rfl) hlk
  exact ⟨_, _, X.returnOut hx hr hd hrr, hrun, hended, _, _, rfl, hP, ⟨_, rfl⟩, hW, hsame.mono hc hs⟩
theorem own_retA {t : FieldType} (X : Stand p l e R s m args below meth c T locs cells slots) (C : own_Ctx p s m meth c Z y bytes maxL (some t)) (ht : t.isReference = true) {pc : Nat} {Ls : Array Slot} {a : Addr} {CC SS : Nat}
    (hd : decode c.code pc = .ok (.areturn, 1)) (hP : P (some (.ref a)) T.heap locs) (hc : cells ≤ CC) (hs : slots ≤ SS) : own_WP p e below (own_Q s P CC SS) T (mkF m pc Ls [.ref a]) := by
  obtain ⟨hx, -, -, -, -, -, hr, hlk⟩ := C
  obtain ⟨fs, hrr, hrun, hended, hW, hsame⟩ := X.leave (v := some (.ref a)) (fun h => by rw [hr] at h; cases h) hlk
  exact ⟨_, _, X.areturnOut hx rfl hr ht hd hrr, hrun, hended, _, _, rfl, hP, ⟨_, rfl⟩, hW, hsame.mono hc hs⟩
/-- a static call by the callee's contract -/
theorem own_callS (X : Stand p l e R s m args below meth c T locs cells slots) (C : own_Ctx p s m meth c Z y bytes maxL rt) {idx : Nat} {y' : MethodName} {bytes' : ByteArray} {maxL' : Nat} {rt' : Option FieldType} {rm' : Room} {argsL rest : List Value} {h : Heap} {P' : Option Value → Heap → List Loc → Prop}
    (hM : own_Met l Z y' bytes' maxL' rt' [] rm' argsL.toArray h P') (w1 : (Cond.methodLink y.cls idx y').before a0 Z = true) (w2 : (Cond.static y').before a0 Z = true) (w3 : (Cond.initialized y'.cls).before a0 Z = true) (w4 : (Cond.code y' bytes' maxL' rt').before a0 Z = true)
    (hy : y'.cls ≠ "java/lang/invoke/MethodHandle" ∧ y'.cls ≠ "java/lang/invoke/VarHandle") (eT : T.heap = h) {W : Nat} {pc : Nat} {Ls : Array Slot} (hsz : Ls.size = maxL) (hlen : ∀ sig, parseMethodDescriptor y'.desc = some sig → argsL.length = sig.parameters.length)
    {stk : List Value} (hst : stk = argsL.reverse ++ rest) (hW : (rest.map fun v => v.category).sum ≤ W) (hd : decode c.code pc = .ok (.invokestatic idx, 3))
    (hf : rm'.frames + 1 ≤ R.frames) (hl : W + (maxL' + 11) + rm'.locals ≤ R.locals) (hc : cells + rm'.cells ≤ R.cells) (hs : slots + rm'.slots ≤ R.slots) :
    ∃ T' v L, Stand p l e R s m args below meth c T' (locs ++ L) (cells + rm'.cells) (slots + rm'.slots) ∧ P' v T'.heap L ∧ ∀ t, Steps p.tables e below (T'.setTop (mkF m (pc + 3) Ls (v.toList ++ rest))) t → Steps p.tables e below (T.setTop (mkF m pc Ls stk)) t := by
  obtain ⟨hx, hZ, hby, hml, hown, hnm, hr, hlk⟩ := C
  obtain ⟨v, _, ⟨T', L', k', n'⟩, -, X', ⟨L, hQ, hl', hk', hn'⟩, st⟩ := Jvm.LawKit.callS X hx (y := y') hown (mvT hZ w1) (mvT hZ w2) (mvT hZ w3) (mvT hZ w4) hy (backOf (W := W) hM hZ w4 w3 hf hl) (g := mkF m pc Ls stk) rfl (by rw [hml]; exact hsz) (argsL := argsL) (rest := rest) hlen hst (by show 2 * 0 + _ ≤ _; omega) hd (fun _ _ => ⟨rfl, eT, hc, hs⟩)
  dsimp only [Pt.U, Pt.locs, Pt.cells, Pt.slots] at X' hl' hk' hn' st hQ
  subst hl' hk' hn'
  exact ⟨T', v, L, X', hQ, st⟩
/-- a constructor by its contract -/
theorem own_callN (X : Stand p l e R s m args below meth c T locs cells slots) (C : own_Ctx p s m meth c Z y bytes maxL rt) {idx : Nat} {y' : MethodName} {bytes' : ByteArray} {maxL' : Nat} {rm' : Room} {a : Addr} {argsL rest : List Value} {h : Heap} {P' : Option Value → Heap → List Loc → Prop}
    (hM : own_Met l Z y' bytes' maxL' none [] rm' (.ref a :: argsL).toArray h P') (hyn : y'.name = "<init>") (w1 : (Cond.methodLink y.cls idx y').before a0 Z = true) (w2 : (Cond.instanceMethod y').before a0 Z = true) (w3 : (Cond.initialized y'.cls).before a0 Z = true) (w4 : (Cond.code y' bytes' maxL' none).before a0 Z = true)
    (hy : y'.cls ≠ "java/lang/invoke/MethodHandle" ∧ y'.cls ≠ "java/lang/invoke/VarHandle") (eT : T.heap = h) {W : Nat} {pc : Nat} {Ls : Array Slot} (hsz : Ls.size = maxL) (hlen : ∀ sig, parseMethodDescriptor y'.desc = some sig → argsL.length = sig.parameters.length)
    {stk : List Value} (hst : stk = argsL.reverse ++ .ref a :: rest) (hW : (rest.map fun v => v.category).sum ≤ W) (hd : decode c.code pc = .ok (.invokespecial idx, 3))
    (hf : rm'.frames + 1 ≤ R.frames) (hl : W + (maxL' + 11) + rm'.locals ≤ R.locals) (hc : cells + rm'.cells ≤ R.cells) (hs : slots + rm'.slots ≤ R.slots) :
    ∃ T' v L, Stand p l e R s m args below meth c T' (locs ++ L) (cells + rm'.cells) (slots + rm'.slots) ∧ P' v T'.heap L ∧ ∀ t, Steps p.tables e below (T'.setTop (mkF m (pc + 3) Ls (v.toList ++ rest))) t → Steps p.tables e below (T.setTop (mkF m pc Ls stk)) t := by
  obtain ⟨hx, hZ, hby, hml, hown, hnm, hr, hlk⟩ := C
  obtain ⟨v, _, ⟨T', L', k', n'⟩, -, X', ⟨L, hQ, hl', hk', hn'⟩, st⟩ := X.specialBack hx (y := y') hyn hown (mvT hZ w1) (mvT hZ w2) (mvT hZ w4) hy (backOf (W := W) hM hZ w4 w3 hf hl) (g := mkF m pc Ls stk) rfl (by rw [hml]; exact hsz) (Steps.refl _) (a := a) (argsL := argsL) (rest := rest) hlen hst (by show 2 * 0 + _ ≤ _; omega) hd (fun _ _ => ⟨rfl, eT, hc, hs⟩)
  dsimp only [Pt.U, Pt.locs, Pt.cells, Pt.slots] at X' hl' hk' hn' st hQ
  subst hl' hk' hn'
  exact ⟨T', v, L, X', hQ, fun t k => st.trans k⟩
/-- an instance method by the contract of the body that is selected (the class that declares it is the receiver's own) -/
theorem own_callV (X : Stand p l e R s m args below meth c T locs cells slots) (C : own_Ctx p s m meth c Z y bytes maxL rt) {idx : Nat} {y' : MethodName} {bytes' : ByteArray} {maxL' : Nat} {rt' : Option FieldType} {rm' : Room} {a : Addr} {argsL rest : List Value} {h : Heap} {P' : Option Value → Heap → List Loc → Prop}
    (hM : own_Met l Z y' bytes' maxL' rt' [] rm' (.ref a :: argsL).toArray h P') (w1 : (Cond.methodLink y.cls idx y').before a0 Z = true) (wd : (Cond.declares y').before a0 Z = true) (wsel : (Cond.selects y'.cls y' y').before a0 Z = true) (w2 : (Cond.instanceMethod y').before a0 Z = true) (w3 : (Cond.initialized y'.cls).before a0 Z = true) (w4 : (Cond.code y' bytes' maxL' rt').before a0 Z = true)
    (hy : y'.cls ≠ "java/lang/invoke/MethodHandle" ∧ y'.cls ≠ "java/lang/invoke/VarHandle") (eT : T.heap = h) (E : Exa Z h a y'.cls) {W : Nat} {pc : Nat} {Ls : Array Slot} (hsz : Ls.size = maxL) (hlen : ∀ sig, parseMethodDescriptor y'.desc = some sig → argsL.length = sig.parameters.length)
    {stk : List Value} (hst : stk = argsL.reverse ++ .ref a :: rest) (hW : (rest.map fun v => v.category).sum ≤ W) (hd : decode c.code pc = .ok (.invokevirtual idx, 3))
    (hf : rm'.frames + 1 ≤ R.frames) (hl : W + (maxL' + 11) + rm'.locals ≤ R.locals) (hc : cells + rm'.cells ≤ R.cells) (hs : slots + rm'.slots ≤ R.slots) :
    ∃ T' v L, Stand p l e R s m args below meth c T' (locs ++ L) (cells + rm'.cells) (slots + rm'.slots) ∧ P' v T'.heap L ∧ ∀ t, Steps p.tables e below (T'.setTop (mkF m (pc + 3) Ls (v.toList ++ rest))) t → Steps p.tables e below (T.setTop (mkF m pc Ls stk)) t := by
  obtain ⟨hx, hZ, hby, hml, hown, hnm, hr, hlk⟩ := C
  obtain ⟨cq, kq, qa, qb, qc⟩ := isOf hZ eT E
  obtain ⟨v, _, ⟨T', L', k', n'⟩, -, X', ⟨L, hQ, hl', hk', hn'⟩, st⟩ := X.virtualBack hx (y := y') (z := y') hown (mvT hZ w1) (mvT hZ wd) (notFace_of_selects (args := #[]) (mvT hZ wsel)) (mvT hZ wsel) (mvT hZ w2) hy (backOf (W := W) hM hZ w4 w3 hf hl) qa qc (g := mkF m pc Ls stk) rfl (by rw [hml]; exact hsz) (Steps.refl _) (argsL := argsL) (rest := rest) hlen hst (by show 2 * 0 + _ ≤ _; omega) hd (fun _ _ => ⟨rfl, eT, hc, hs⟩)
  dsimp only [Pt.U, Pt.locs, Pt.cells, Pt.slots] at X' hl' hk' hn' st hQ
  subst hl' hk' hn'
  exact ⟨T', v, L, X', hQ, fun t k => st.trans k⟩
end Own
end Jvm.Pilot.@@N@@
namespace Jvm.Pilot.@@N@@
open Jvm Jvm.ClassFile Sem Op Lib Jvm.Free Jvm.Stand Jvm.LawKit Jvm.RoadKit Bundle Jvm.Pilot.@@N@@.Jvm.D
/-- the array at b holds just vs -/
def own_A (Z : State) (h : Heap) (b : Addr) (ty : FieldType) (vs : List Value) : Prop := Exa Z h b ("[" ++ ty.toString) ∧ ∃ c : Cell, Arr Z h b c ty ∧ c.slots = vs.toArray ∧ vs.length < 2147483648 ∧ ∀ v ∈ vs, fits ty v = true
def own_AI (Z : State) (h : Heap) (b : Addr) (ty : FieldType) (vs : List Int32) : Prop := own_A Z h b ty (vs.map Value.int)
def own_AJ (Z : State) (h : Heap) (b : Addr) (ty : FieldType) (vs : List Int64) : Prop := own_A Z h b ty (vs.map Value.long)
def own_get {α : Type} (vs : List α) (j : Int32) : Option α := if j < 0 then none else vs[j.toNatClampNeg]?
def own_set {α : Type} (vs : List α) (j : Int32) (x : α) : Option (List α) := if j < 0 then none else if j.toNatClampNeg < vs.length then some (vs.set j.toNatClampNeg x) else none
theorem own_bind {α β : Type} {o : Option α} {f : α → Option β} {r : β} (h : o.bind f = some r) : ∃ v, o = some v ∧ f v = some r := by
  cases o with
  | none => cases h
  | some v => exact ⟨v, rfl, h⟩
def own_let {α β : Type} (a : α) (f : α → β) : β := f a
theorem own_letE {α β : Type} {a : α} {f : α → β} {r : β} (h : own_let a f = r) : f a = r := h
theorem own_ne {a b : Nat} (h : a < b ∨ b < a) : @Ne Addr a b := by
  intro e
  rcases h with h | h
  · exact Nat.lt_irrefl _ (e ▸ h)
  · exact Nat.lt_irrefl _ (e ▸ h)
theorem own_cap {n : Int32} {c : Int} {k : Nat} (hk : c = (k : Int)) (h : ¬ c < n.toInt) : n.toNatClampNeg ≤ k := by
  have q : n.toNatClampNeg = n.toInt.toNat := rfl
  rw [q]; omega
section Own
variable {p : Program} {l : Launch} {e : Env} {R : Room} {s : State} {m : MethodId} {args : Array Value} {below : List Frame} {meth : Method} {c : Code} {T T' : State} {locs : List Loc} {cells slots : Nat} {Z : State} {a0 : Array Value} {y : MethodName} {bytes : ByteArray} {maxL : Nat} {rt : Option FieldType} {h h' : Heap} {a b : Addr} {ty : FieldType}
theorem own_A.lt {vs : List Value} (F : own_A Z h b ty vs) : b < h.size := by obtain ⟨E, c, A, -⟩ := F; exact A.lt
theorem own_A.ext {vs : List Value} (F : own_A Z h b ty vs) (E : Ext h h') : own_A Z h' b ty vs := by obtain ⟨Q, c, A, r⟩ := F; exact ⟨Q.ext E, c, A.ext E, r⟩
theorem own_A.other {vs : List Value} {sl : Nat} {v : Value} (F : own_A Z h b ty vs) (W : Wr h h' a sl v) (q : b ≠ a) : own_A Z h' b ty vs := by obtain ⟨Q, c, A, r⟩ := F; exact ⟨Q.wr W, c, A.other W q, r⟩
theorem own_A.keep {vs : List Value} {ws : List Addr} (F : own_A Z h b ty vs) (K : Keep h h' ws) (q : b ∉ ws) : own_A Z h' b ty vs := by obtain ⟨Q, c, A, r⟩ := F; exact ⟨Q.keep K, c, ⟨K.2.1 b c A.1 q, A.2⟩, r⟩
theorem own_A.set {vs : List Value} {j : Nat} {v : Value} (F : own_A Z h b ty vs) (W : Wr h h' b j v) (hv : fits ty v = true) : own_A Z h' b ty (vs.set j v) := by
  obtain ⟨Q, c, A, r1, r2, r3⟩ := F
  refine ⟨Q.wr W, _, A.same W, ?_, by simpa using r2, ?_⟩
  · show c.slots.setIfInBounds j v = _
    rw [r1]; simp
  · intro u hu
    rcases List.mem_or_eq_of_mem_set hu with q | q
    · exact r3 u q
    · rw [q]; exact hv
theorem own_AI.lt {vs : List Int32} (F : own_AI Z h b ty vs) : b < h.size := own_A.lt F
theorem own_AI.ext {vs : List Int32} (F : own_AI Z h b ty vs) (E : Ext h h') : own_AI Z h' b ty vs := own_A.ext F E
theorem own_AI.other {vs : List Int32} {sl : Nat} {v : Value} (F : own_AI Z h b ty vs) (W : Wr h h' a sl v) (q : b ≠ a) : own_AI Z h' b ty vs := own_A.other F W q
theorem own_AI.keep {vs : List Int32} {ws : List Addr} (F : own_AI Z h b ty vs) (K : Keep h h' ws) (q : b ∉ ws) : own_AI Z h' b ty vs := own_A.keep F K q
theorem own_AJ.lt {vs : List Int64} (F : own_AJ Z h b ty vs) : b < h.size := own_A.lt F
theorem own_AJ.ext {vs : List Int64} (F : own_AJ Z h b ty vs) (E : Ext h h') : own_AJ Z h' b ty vs := own_A.ext F E
theorem own_AJ.other {vs : List Int64} {sl : Nat} {v : Value} (F : own_AJ Z h b ty vs) (W : Wr h h' a sl v) (q : b ≠ a) : own_AJ Z h' b ty vs := own_A.other F W q
theorem own_AJ.keep {vs : List Int64} {ws : List Addr} (F : own_AJ Z h b ty vs) (K : Keep h h' ws) (q : b ∉ ws) : own_AJ Z h' b ty vs := own_A.keep F K q
theorem own_A.place {α : Type} {f : α → Value} {vs : List α} {j : Int32} {v : α} (F : own_A Z h b ty (vs.map f)) (g : own_get vs j = some v) : ∃ c : Cell, Arr Z h b c ty ∧ ¬ (j < 0 ∨ c.slots.size ≤ j.toNatClampNeg) ∧ c.slots[j.toNatClampNeg]? = some (f v) := by
  obtain ⟨-, c, A, r1, r2, -⟩ := F
  unfold own_get at g
  split at g
  · cases g
  · rename_i hj
    obtain ⟨hlt, hv⟩ := List.getElem?_eq_some_iff.mp g
    refine ⟨c, A, ?_, ?_⟩
    · rintro (q | q)
      · exact hj q
      · rw [r1] at q; simp at q; omega
    · rw [r1]; simp [g]
theorem own_A.room {α : Type} {f : α → Value} {vs vs' : List α} {j : Int32} {v : α} (F : own_A Z h b ty (vs.map f)) (g : own_set vs j v = some vs') : ∃ c : Cell, Arr Z h b c ty ∧ ¬ (j < 0 ∨ c.slots.size ≤ j.toNatClampNeg) ∧ vs' = vs.set j.toNatClampNeg v := by
  obtain ⟨-, c, A, r1, r2, -⟩ := F
  unfold own_set at g
  split at g
  · cases g
  · rename_i hj
    split at g
    · rename_i hlt
      refine ⟨c, A, ?_, (Option.some.inj g).symm⟩
      rintro (q | q)
      · exact hj q
      · rw [r1] at q; simp at q; omega
    · cases g
theorem own_iaload (X : Stand p l e R s m args below meth c T locs cells slots) (C : own_Ctx p s m meth c Z y bytes maxL rt) (eT : T.heap = h) {vs : List Int32} (F : own_AI Z h b .int vs) {j v : Int32} (g : own_get vs j = some v) {pc : Nat} {Ls : Array Slot} {rest : List Value} (hd : decode c.code pc = .ok (.iaload, 1)) :
    ∀ t, Steps p.tables e below (T.setTop (mkF m (pc + 1) Ls (.int v :: rest))) t → Steps p.tables e below (T.setTop (mkF m pc Ls (.int j :: .ref b :: rest))) t := by
  obtain ⟨hx, hZ, -⟩ := C
  obtain ⟨cl, A, hin, hat⟩ := own_A.place F g
  intro t k
  exact X.iaload hx (j := j) (v := .int v) (by rw [eT]; exact A.1) (State.isArrayOf_alike hZ.alike A.2.1) A.2.2 hin hat (g := mkF m pc Ls (.int j :: .ref b :: rest)) rfl rfl hd t k
theorem own_baload (X : Stand p l e R s m args below meth c T locs cells slots) (C : own_Ctx p s m meth c Z y bytes maxL rt) (eT : T.heap = h) {vs : List Int32} (F : own_AI Z h b .byte vs) {j v : Int32} (g : own_get vs j = some v) {pc : Nat} {Ls : Array Slot} {rest : List Value} (hd : decode c.code pc = .ok (.baload, 1)) :
    ∀ t, Steps p.tables e below (T.setTop (mkF m (pc + 1) Ls (.int v :: rest))) t → Steps p.tables e below (T.setTop (mkF m pc Ls (.int j :: .ref b :: rest))) t := by
  obtain ⟨hx, hZ, -⟩ := C
  obtain ⟨cl, A, hin, hat⟩ := own_A.place F g
  intro t k
  exact X.baloadBytes hx (j := j) (v := .int v) (by rw [eT]; exact A.1) (State.isArrayOf_alike hZ.alike A.2.1) A.2.2 hin hat (g := mkF m pc Ls (.int j :: .ref b :: rest)) rfl rfl hd t k
theorem own_laload (X : Stand p l e R s m args below meth c T locs cells slots) (C : own_Ctx p s m meth c Z y bytes maxL rt) (eT : T.heap = h) {vs : List Int64} (F : own_AJ Z h b .long vs) {j : Int32} {v : Int64} (g : own_get vs j = some v) {pc : Nat} {Ls : Array Slot} {rest : List Value} (hd : decode c.code pc = .ok (.laload, 1)) :
    ∀ t, Steps p.tables e below (T.setTop (mkF m (pc + 1) Ls (.long v :: rest))) t → Steps p.tables e below (T.setTop (mkF m pc Ls (.int j :: .ref b :: rest))) t := by
  obtain ⟨hx, hZ, -⟩ := C
  obtain ⟨cl, A, hin, hat⟩ := own_A.place F g
  intro t k
  exact X.laload hx (j := j) (v := .long v) (by rw [eT]; exact A.1) (State.isArrayOf_alike hZ.alike A.2.1) A.2.2 hin hat (g := mkF m pc Ls (.int j :: .ref b :: rest)) rfl rfl hd t k
theorem own_len (X : Stand p l e R s m args below meth c T locs cells slots) (C : own_Ctx p s m meth c Z y bytes maxL rt) (eT : T.heap = h) {vs : List Value} (F : own_A Z h b ty vs) {pc : Nat} {Ls : Array Slot} {rest : List Value} (hd : decode c.code pc = .ok (.arraylength, 1)) :
    ∀ t, Steps p.tables e below (T.setTop (mkF m (pc + 1) Ls (.int (Int32.ofNat vs.length) :: rest))) t → Steps p.tables e below (T.setTop (mkF m pc Ls (.ref b :: rest))) t := by
  obtain ⟨hx, hZ, -⟩ := C
  obtain ⟨-, cl, A, r1, r2, -⟩ := F
  intro t k
  refine X.arraylength hx (by rw [eT]; exact A.1) (State.isArrayOf_alike hZ.alike A.2.1) (g := mkF m pc Ls (.ref b :: rest)) rfl rfl hd t ?_
  have q : cl.slots.size.toInt32 = Int32.ofNat vs.length := by
    rw [r1, List.size_toArray]
  rw [q]; exact k
theorem own_lenI (X : Stand p l e R s m args below meth c T locs cells slots) (C : own_Ctx p s m meth c Z y bytes maxL rt) (eT : T.heap = h) {vs : List Int32} (F : own_AI Z h b ty vs) {pc : Nat} {Ls : Array Slot} {rest : List Value} (hd : decode c.code pc = .ok (.arraylength, 1)) :
    ∀ t, Steps p.tables e below (T.setTop (mkF m (pc + 1) Ls (.int (Int32.ofNat vs.length) :: rest))) t → Steps p.tables e below (T.setTop (mkF m pc Ls (.ref b :: rest))) t := by
  have k := own_len X C eT F (Ls := Ls) (rest := rest) hd
  rwa [List.length_map] at k
theorem own_lenJ (X : Stand p l e R s m args below meth c T locs cells slots) (C : own_Ctx p s m meth c Z y bytes maxL rt) (eT : T.heap = h) {vs : List Int64} (F : own_AJ Z h b ty vs) {pc : Nat} {Ls : Array Slot} {rest : List Value} (hd : decode c.code pc = .ok (.arraylength, 1)) :
    ∀ t, Steps p.tables e below (T.setTop (mkF m (pc + 1) Ls (.int (Int32.ofNat vs.length) :: rest))) t → Steps p.tables e below (T.setTop (mkF m pc Ls (.ref b :: rest))) t := by
  have k := own_len X C eT F (Ls := Ls) (rest := rest) hd
  rwa [List.length_map] at k
theorem own_iastore (X : Stand p l e R s m args below meth c T locs cells slots) (C : own_Ctx p s m meth c Z y bytes maxL rt) (eT : T.heap = h) {vs vs' : List Int32} (F : own_AI Z h b .int vs) {j x : Int32} (g : own_set vs j x = some vs') {pc : Nat} {Ls : Array Slot} {rest : List Value} (hd : decode c.code pc = .ok (.iastore, 1)) :
    ∃ T' h', Stand p l e R s m args below meth c T' (locs ++ [⟨b, j.toNatClampNeg⟩]) cells slots ∧ T'.heap = h' ∧ Wr h h' b j.toNatClampNeg (.int x) ∧ own_AI Z h' b .int vs' ∧
      ∀ t, Steps p.tables e below (T'.setTop (mkF m (pc + 1) Ls rest)) t → Steps p.tables e below (T.setTop (mkF m pc Ls (.int x :: .int j :: .ref b :: rest))) t := by
  obtain ⟨hx, hZ, -⟩ := C
  obtain ⟨cl, A, hin, rfl⟩ := own_A.room F g
  obtain ⟨T', h', X', e', W, st⟩ := stI X hx hZ eT A (j := j) (x := x) hin (g := mkF m pc Ls (.int x :: .int j :: .ref b :: rest)) rfl rfl hd
  refine ⟨T', h', X', e', W, ?_, st⟩
  have k := own_A.set F W rfl
  unfold own_AI
  rwa [List.map_set]
theorem own_lastore (X : Stand p l e R s m args below meth c T locs cells slots) (C : own_Ctx p s m meth c Z y bytes maxL rt) (eT : T.heap = h) {vs vs' : List Int64} (F : own_AJ Z h b .long vs) {j : Int32} {x : Int64} (g : own_set vs j x = some vs') {pc : Nat} {Ls : Array Slot} {rest : List Value} (hd : decode c.code pc = .ok (.lastore, 1)) :
    ∃ T' h', Stand p l e R s m args below meth c T' (locs ++ [⟨b, j.toNatClampNeg⟩]) cells slots ∧ T'.heap = h' ∧ Wr h h' b j.toNatClampNeg (.long x) ∧ own_AJ Z h' b .long vs' ∧
      ∀ t, Steps p.tables e below (T'.setTop (mkF m (pc + 1) Ls rest)) t → Steps p.tables e below (T.setTop (mkF m pc Ls (.long x :: .int j :: .ref b :: rest))) t := by
  obtain ⟨hx, hZ, -⟩ := C
  obtain ⟨cl, A, hin, rfl⟩ := own_A.room F g
  obtain ⟨T', h', X', e', W, st⟩ := stJ X hx hZ eT A (j := j) (x := x) hin (g := mkF m pc Ls (.long x :: .int j :: .ref b :: rest)) rfl rfl hd
  refine ⟨T', h', X', e', W, ?_, st⟩
  have k := own_A.set F W rfl
  unfold own_AJ
  rwa [List.map_set]
theorem own_bastore (X : Stand p l e R s m args below meth c T locs cells slots) (C : own_Ctx p s m meth c Z y bytes maxL rt) (eT : T.heap = h) {vs vs' : List Int32} (F : own_AI Z h b .byte vs) {j x : Int32} (g : own_set vs j (x.toInt8.toInt32) = some vs') {pc : Nat} {Ls : Array Slot} {rest : List Value} (hd : decode c.code pc = .ok (.bastore, 1)) :
    ∃ T' h', Stand p l e R s m args below meth c T' (locs ++ [⟨b, j.toNatClampNeg⟩]) cells slots ∧ T'.heap = h' ∧ Wr h h' b j.toNatClampNeg (.int (x.toInt8.toInt32)) ∧ own_AI Z h' b .byte vs' ∧
      ∀ t, Steps p.tables e below (T'.setTop (mkF m (pc + 1) Ls rest)) t → Steps p.tables e below (T.setTop (mkF m pc Ls (.int x :: .int j :: .ref b :: rest))) t := by
  obtain ⟨hx, hZ, -⟩ := C
  obtain ⟨cl, A, hin, rfl⟩ := own_A.room F g
  obtain ⟨T', h', X', e', W, st⟩ := stB X hx hZ eT A (j := j) (x := x) hin (g := mkF m pc Ls (.int x :: .int j :: .ref b :: rest)) rfl rfl hd
  refine ⟨T', h', X', e', W, ?_, st⟩
  have k := own_A.set F W (fits_nar_byte x)
  unfold own_AI
  rwa [List.map_set]
theorem own_newI (X : Stand p l e R s m args below meth c T locs cells slots) (C : own_Ctx p s m meth c Z y bytes maxL rt) (eT : T.heap = h) {aty : ArrayType} (hk : newarray.typeOf aty = ty) (hdv : defaultValue ty = .int 0) (hfz : fits ty (.int 0) = true) (w : (Cond.arrayClass ty).before a0 Z = true) {n : Int32} (hn : ¬ n < 0) {cap : Nat} (hcap : n.toNatClampNeg ≤ cap) (hb : cap * 8 ≤ 536870912) (hc : cells + 1 ≤ R.cells) (hl : slots + cap ≤ R.slots)
    {pc : Nat} {Ls : Array Slot} {rest : List Value} (hd : decode c.code pc = .ok (.newarray aty, 2)) :
    ∃ T' h' b, Stand p l e R s m args below meth c T' locs (cells + 1) (slots + cap) ∧ T'.heap = h' ∧ Ext h h' ∧ b = h.size ∧ own_AI Z h' b ty (List.replicate n.toNatClampNeg 0) ∧
      ∀ t, Steps p.tables e below (T'.setTop (mkF m (pc + 2) Ls (.ref b :: rest))) t → Steps p.tables e below (T.setTop (mkF m pc Ls (.int n :: rest))) t := by
  obtain ⟨hx, hZ, -⟩ := C
  subst hk
  obtain ⟨T', h', k, X', e', E, A, Q, st⟩ := newPE X hx hZ w eT (g := mkF m pc Ls (.int n :: rest)) rfl hd rfl hn (cap := cap) hcap hb hc hl rfl
  refine ⟨T', h', h.size, X', e', E, rfl, ⟨Q, _, A, ?_, ?_, ?_⟩, st⟩
  · show Array.replicate _ _ = _
    rw [hdv]; simp
  · rw [List.map_replicate, List.length_replicate]; omega
  · intro v hv
    rw [List.map_replicate] at hv
    rw [List.eq_of_mem_replicate hv]
    exact hfz
theorem own_newJ (X : Stand p l e R s m args below meth c T locs cells slots) (C : own_Ctx p s m meth c Z y bytes maxL rt) (eT : T.heap = h) {aty : ArrayType} (hk : newarray.typeOf aty = ty) (hdv : defaultValue ty = .long 0) (hfz : fits ty (.long 0) = true) (w : (Cond.arrayClass ty).before a0 Z = true) {n : Int32} (hn : ¬ n < 0) {cap : Nat} (hcap : n.toNatClampNeg ≤ cap) (hb : cap * 8 ≤ 536870912) (hc : cells + 1 ≤ R.cells) (hl : slots + cap ≤ R.slots)
    {pc : Nat} {Ls : Array Slot} {rest : List Value} (hd : decode c.code pc = .ok (.newarray aty, 2)) :
    ∃ T' h' b, Stand p l e R s m args below meth c T' locs (cells + 1) (slots + cap) ∧ T'.heap = h' ∧ Ext h h' ∧ b = h.size ∧ own_AJ Z h' b ty (List.replicate n.toNatClampNeg 0) ∧
      ∀ t, Steps p.tables e below (T'.setTop (mkF m (pc + 2) Ls (.ref b :: rest))) t → Steps p.tables e below (T.setTop (mkF m pc Ls (.int n :: rest))) t := by
  obtain ⟨hx, hZ, -⟩ := C
  subst hk
  obtain ⟨T', h', k, X', e', E, A, Q, st⟩ := newPE X hx hZ w eT (g := mkF m pc Ls (.int n :: rest)) rfl hd rfl hn (cap := cap) hcap hb hc hl rfl
  refine ⟨T', h', h.size, X', e', E, rfl, ⟨Q, _, A, ?_, ?_, ?_⟩, st⟩
  · show Array.replicate _ _ = _
    rw [hdv]; simp
  · rw [List.map_replicate, List.length_replicate]; omega
  · intro v hv
    rw [List.map_replicate] at hv
    rw [List.eq_of_mem_replicate hv]
    exact hfz
end Own
end Jvm.Pilot.@@N@@
namespace Jvm.Pilot.@@N@@
open Jvm Jvm.ClassFile Sem Op Lib Jvm.Free Jvm.Stand Jvm.LawKit Jvm.RoadKit Bundle Jvm.Pilot.@@N@@.Jvm.D
theorem d3_0 : decode prog_39_method_2_code 0 = .ok (.iconst 0, 1) := by decide +kernel
theorem d3_1 : decode prog_39_method_2_code 1 = .ok (.istore_n 1, 1) := by decide +kernel
theorem d3_2 : decode prog_39_method_2_code 2 = .ok (.iload_n 1, 1) := by decide +kernel
theorem d3_3 : decode prog_39_method_2_code 3 = .ok (.aload_n 0, 1) := by decide +kernel
theorem d3_4 : decode prog_39_method_2_code 4 = .ok (.getfield 7, 3) := by decide +kernel
theorem d3_7 : decode prog_39_method_2_code 7 = .ok (.if_icmp .ge 34, 3) := by decide +kernel
theorem d3_10 : decode prog_39_method_2_code 10 = .ok (.aload_n 0, 1) := by decide +kernel
theorem d3_11 : decode prog_39_method_2_code 11 = .ok (.getfield 13, 3) := by decide +kernel
theorem d3_14 : decode prog_39_method_2_code 14 = .ok (.iload_n 1, 1) := by decide +kernel
theorem d3_15 : decode prog_39_method_2_code 15 = .ok (.iload_n 1, 1) := by decide +kernel
theorem d3_16 : decode prog_39_method_2_code 16 = .ok (.iconst 1, 1) := by decide +kernel
theorem d3_17 : decode prog_39_method_2_code 17 = .ok (.iadd, 1) := by decide +kernel
theorem d3_18 : decode prog_39_method_2_code 18 = .ok (.iastore, 1) := by decide +kernel
theorem d3_19 : decode prog_39_method_2_code 19 = .ok (.aload_n 0, 1) := by decide +kernel
theorem d3_20 : decode prog_39_method_2_code 20 = .ok (.getfield 17, 3) := by decide +kernel
theorem d3_23 : decode prog_39_method_2_code 23 = .ok (.iload_n 1, 1) := by decide +kernel
theorem d3_24 : decode prog_39_method_2_code 24 = .ok (.iconst 1, 1) := by decide +kernel
theorem d3_25 : decode prog_39_method_2_code 25 = .ok (.iadd, 1) := by decide +kernel
theorem d3_26 : decode prog_39_method_2_code 26 = .ok (.iload_n 1, 1) := by decide +kernel
theorem d3_27 : decode prog_39_method_2_code 27 = .ok (.iastore, 1) := by decide +kernel
theorem d3_28 : decode prog_39_method_2_code 28 = .ok (.aload_n 0, 1) := by decide +kernel
theorem d3_29 : decode prog_39_method_2_code 29 = .ok (.getfield 20, 3) := by decide +kernel
theorem d3_32 : decode prog_39_method_2_code 32 = .ok (.iload_n 1, 1) := by decide +kernel
theorem d3_33 : decode prog_39_method_2_code 33 = .ok (.iconst 1, 1) := by decide +kernel
theorem d3_34 : decode prog_39_method_2_code 34 = .ok (.iastore, 1) := by decide +kernel
theorem d3_35 : decode prog_39_method_2_code 35 = .ok (.iinc 1 1, 3) := by decide +kernel
theorem d3_38 : decode prog_39_method_2_code 38 = .ok (.goto (-36), 3) := by decide +kernel
theorem d3_41 : decode prog_39_method_2_code 41 = .ok (.aload_n 0, 1) := by decide +kernel
theorem d3_42 : decode prog_39_method_2_code 42 = .ok (.getfield 13, 3) := by decide +kernel
theorem d3_45 : decode prog_39_method_2_code 45 = .ok (.aload_n 0, 1) := by decide +kernel
theorem d3_46 : decode prog_39_method_2_code 46 = .ok (.getfield 7, 3) := by decide +kernel
theorem d3_49 : decode prog_39_method_2_code 49 = .ok (.iconst 0, 1) := by decide +kernel
theorem d3_50 : decode prog_39_method_2_code 50 = .ok (.iastore, 1) := by decide +kernel
theorem d3_51 : decode prog_39_method_2_code 51 = .ok (.aload_n 0, 1) := by decide +kernel
theorem d3_52 : decode prog_39_method_2_code 52 = .ok (.getfield 17, 3) := by decide +kernel
theorem d3_55 : decode prog_39_method_2_code 55 = .ok (.iconst 0, 1) := by decide +kernel
theorem d3_56 : decode prog_39_method_2_code 56 = .ok (.aload_n 0, 1) := by decide +kernel
theorem d3_57 : decode prog_39_method_2_code 57 = .ok (.getfield 7, 3) := by decide +kernel
theorem d3_60 : decode prog_39_method_2_code 60 = .ok (.iastore, 1) := by decide +kernel
theorem d3_61 : decode prog_39_method_2_code 61 = .ok (.aload_n 0, 1) := by decide +kernel
theorem d3_62 : decode prog_39_method_2_code 62 = .ok (.getfield 20, 3) := by decide +kernel
theorem d3_65 : decode prog_39_method_2_code 65 = .ok (.aload_n 0, 1) := by decide +kernel
theorem d3_66 : decode prog_39_method_2_code 66 = .ok (.getfield 7, 3) := by decide +kernel
theorem d3_69 : decode prog_39_method_2_code 69 = .ok (.iconst 0, 1) := by decide +kernel
theorem d3_70 : decode prog_39_method_2_code 70 = .ok (.iastore, 1) := by decide +kernel
theorem d3_71 : decode prog_39_method_2_code 71 = .ok (.return_, 1) := by decide +kernel
def rmR3 : Room := { frames := 0, cells := 0, slots := 0, locals := 0 }
def E3 (Z : State) (h0 : Heap) (o0 : Nat) (pf : Nat) (pp : Nat) (pd : Nat) (n : Int32) (rr : (List Int32) × (List Int32) × (List Int32)) (v : Option Value) (h : Heap) : Prop := v = none ∧ own_AI Z h pf .int (rr.1) ∧ own_AI Z h pp .int (rr.2.1) ∧ own_AI Z h pd .int (rr.2.2)
def f3_2 : Nat → Int32 → (List Int32) → (List Int32) → (List Int32) → Int32 → Option ((List Int32) × (List Int32) × (List Int32))
  | 0 => fun _ _ _ _ _ => none
  | k + 1 => fun n v_pf v_pp v_pd x1 => (if x1 < n then ((own_set v_pf x1 (x1 + (1 : Int32))).bind fun u3 => ((own_set v_pp (x1 + (1 : Int32)) x1).bind fun u5 => ((own_set v_pd x1 (1 : Int32)).bind fun u7 => (f3_2 k n u3 u5 u7 (x1 + (1 : Int32)))))) else ((own_set v_pf n (0 : Int32)).bind fun u10 => ((own_set v_pp (0 : Int32) n).bind fun u13 => ((own_set v_pd n (0 : Int32)).bind fun u16 => (some (u10, u13, u16))))))
set_option maxRecDepth 65536 in
set_option maxHeartbeats 40000000 in
theorem b3_2 {p : Program} {l : Launch} {e : Env} {s : State} {m : MethodId} {args : Array Value} {below : List Frame} {meth : Method} {c : Code} {Z : State} {a0 : Array Value} {h0 : Heap} {n0 : Nat} {P : Option Value → Heap → List Loc → Prop} (hw : ∀ d ∈ tables_1, d.before a0 Z = true) (C : own_Ctx p s m meth c Z (⟨"com/example/gridfare/gridfare/engine/LoweringTree", "plant", "()V"⟩ : MethodName) prog_39_method_2_code 2 none) (Z0 : n0 ≤ h0.size) {o0 : Nat} {pf : Nat} {pp : Nat} {pd : Nat} {n : Int32} (rr : (List Int32) × (List Int32) × (List Int32)) (hP : ∀ v h L, Fr n0 L → Keep h0 h [pf, pp, pd] → E3 Z h0 o0 pf pp pd n rr v h → P v h L) (k : Nat) : ∀ {T : State} {locs : List Loc} {h : Heap} {v_pf : List Int32} {v_pp : List Int32} {v_pd : List Int32} (X : Stand p l e rmR3 s m args below meth c T locs 0 0) (e0 : T.heap = h) (N : Fr n0 locs) (K : Keep h0 h [pf, pp, pd]) (o_o0_pf : o0 < pf) (o_pf_pp : pf < pp) (o_pp_pd : pp < pd) (g_o0 : n0 ≤ o0) (E_o0 : Exa Z h o0 "com/example/gridfare/gridfare/engine/LoweringTree") (F_o0_root : Fld Z h o0 "com/example/gridfare/gridfare/engine/LoweringTree" "root" "I" (.int n)) (F_o0_following : Fld Z h o0 "com/example/gridfare/gridfare/engine/LoweringTree" "following" "[I" (.ref pf)) (F_o0_preceding : Fld Z h o0 "com/example/gridfare/gridfare/engine/LoweringTree" "preceding" "[I" (.ref pp)) (F_o0_depth : Fld Z h o0 "com/example/gridfare/gridfare/engine/LoweringTree" "depth" "[I" (.ref pd)) (V_pf : own_AI Z h pf .int v_pf) (V_pp : own_AI Z h pp .int v_pp) (V_pd : own_AI Z h pd .int v_pd) (x1 : Int32) (hv : f3_2 k n v_pf v_pp v_pd x1 = some rr),
    own_WP p e below (own_Q s P rmR3.cells rmR3.slots) T (mkF m 2 #[.val (.ref o0), .val (.int x1)] []) := by
  obtain ⟨hx, hZ, hby, hml, hown, hnm, hret, hlk⟩ := id C
  replace hown : s.vm.findClass "com/example/gridfare/gridfare/engine/LoweringTree" = some m.cls := hown
  induction k with
  | zero => intros; rename_i hv; cases hv
  | succ k ih =>
    intro T locs h v_pf v_pp v_pd X e0 N K o_o0_pf o_pf_pp o_pp_pd g_o0 E_o0 F_o0_root F_o0_following F_o0_preceding F_o0_depth V_pf V_pp V_pd x1 hv
    unfold f3_2 at hv
    show own_WP p e below _ T (mkF m 2 #[.val (.ref o0), .val (.int x1)] [])
    refine own_go (fun _ => XS.iloadN X.here hx rfl (hb hby d3_2) rfl) ?_
    show own_WP p e below _ T (mkF m 3 #[.val (.ref o0), .val (.int x1)] [(.int x1)])
    refine own_go (fun _ => XS.aloadN X.here hx rfl (hb hby d3_3) rfl rfl) ?_
    show own_WP p e below _ T (mkF m 4 #[.val (.ref o0), .val (.int x1)] [(.ref o0), (.int x1)])
    obtain ⟨T1, X1, e1, st1⟩ := getF X hx hZ hown (host := "") (Or.inl (hw _ (List.mem_of_getElem? (i := 9) rfl))) Via.refl e0 F_o0_root (g := (mkF m 4 #[.val (.ref o0), .val (.int x1)] [(.ref o0), (.int x1)])) rfl rfl (hb hby d3_4)
    refine own_go st1 ?_
    show own_WP p e below _ T1 (mkF m 7 #[.val (.ref o0), .val (.int x1)] [(.int n), (.int x1)])
    by_cases h7 : x1 < n
    · replace hv := (if_pos h7).symm.trans hv
      refine own_go (fun _ => XS.icmpNo X1.here hx rfl (hb hby d3_7) rfl (XT.ii_ge_f h7)) ?_
      show own_WP p e below _ T1 (mkF m 10 #[.val (.ref o0), .val (.int x1)] [])
      refine own_go (fun _ => XS.aloadN X1.here hx rfl (hb hby d3_10) rfl rfl) ?_
      show own_WP p e below _ T1 (mkF m 11 #[.val (.ref o0), .val (.int x1)] [(.ref o0)])
      obtain ⟨T2, X2, e2, st2⟩ := getF X1 hx hZ hown (host := "") (Or.inl (hw _ (List.mem_of_getElem? (i := 12) rfl))) Via.refl e1 F_o0_following (g := (mkF m 11 #[.val (.ref o0), .val (.int x1)] [(.ref o0)])) rfl rfl (hb hby d3_11)
      refine own_go st2 ?_
      show own_WP p e below _ T2 (mkF m 14 #[.val (.ref o0), .val (.int x1)] [(.ref pf)])
      refine own_go (fun _ => XS.iloadN X2.here hx rfl (hb hby d3_14) rfl) ?_
      show own_WP p e below _ T2 (mkF m 15 #[.val (.ref o0), .val (.int x1)] [(.int x1), (.ref pf)])
      refine own_go (fun _ => XS.iloadN X2.here hx rfl (hb hby d3_15) rfl) ?_
      show own_WP p e below _ T2 (mkF m 16 #[.val (.ref o0), .val (.int x1)] [(.int x1), (.int x1), (.ref pf)])
      refine own_go (fun _ => XS.iconst X2.here hx rfl (hb hby d3_16)) ?_
      show own_WP p e below _ T2 (mkF m 17 #[.val (.ref o0), .val (.int x1)] [(.int (1 : Int32)), (.int x1), (.int x1), (.ref pf)])
      refine own_go (fun _ => XS.iadd X2.here hx rfl (hb hby d3_17) rfl) ?_
      show own_WP p e below _ T2 (mkF m 18 #[.val (.ref o0), .val (.int x1)] [(.int (x1 + (1 : Int32))), (.int x1), (.ref pf)])
      obtain ⟨u3, hg3, hv⟩ := own_bind hv
      obtain ⟨T3, h3, X3, e3, W3, V'3, st3⟩ := own_iastore X2 C e2 V_pf (j := x1) (x := (x1 + (1 : Int32))) hg3 (hb hby d3_18)
      refine own_go st3 ?_
      replace E_o0 := E_o0.wr W3
      replace F_o0_root := F_o0_root.other W3 (Or.inl (own_ne (by omega)))
      replace F_o0_following := F_o0_following.other W3 (Or.inl (own_ne (by omega)))
      replace F_o0_preceding := F_o0_preceding.other W3 (Or.inl (own_ne (by omega)))
      replace F_o0_depth := F_o0_depth.other W3 (Or.inl (own_ne (by omega)))
      replace V_pp := V_pp.other W3 (own_ne (by omega))
      replace V_pd := V_pd.other W3 (own_ne (by omega))
      replace V_pf := V'3
      clear V'3
      replace K := K.wr W3 (Or.inl (List.mem_of_getElem? (i := 0) rfl))
      replace N := Fr.snoc X3 N (by omega)
      show own_WP p e below _ T3 (mkF m 19 #[.val (.ref o0), .val (.int x1)] [])
      refine own_go (fun _ => XS.aloadN X3.here hx rfl (hb hby d3_19) rfl rfl) ?_
      show own_WP p e below _ T3 (mkF m 20 #[.val (.ref o0), .val (.int x1)] [(.ref o0)])
      obtain ⟨T4, X4, e4, st4⟩ := getF X3 hx hZ hown (host := "") (Or.inl (hw _ (List.mem_of_getElem? (i := 14) rfl))) Via.refl e3 F_o0_preceding (g := (mkF m 20 #[.val (.ref o0), .val (.int x1)] [(.ref o0)])) rfl rfl (hb hby d3_20)
      refine own_go st4 ?_
      show own_WP p e below _ T4 (mkF m 23 #[.val (.ref o0), .val (.int x1)] [(.ref pp)])
      refine own_go (fun _ => XS.iloadN X4.here hx rfl (hb hby d3_23) rfl) ?_
      show own_WP p e below _ T4 (mkF m 24 #[.val (.ref o0), .val (.int x1)] [(.int x1), (.ref pp)])
      refine own_go (fun _ => XS.iconst X4.here hx rfl (hb hby d3_24)) ?_
      show own_WP p e below _ T4 (mkF m 25 #[.val (.ref o0), .val (.int x1)] [(.int (1 : Int32)), (.int x1), (.ref pp)])
      refine own_go (fun _ => XS.iadd X4.here hx rfl (hb hby d3_25) rfl) ?_
      show own_WP p e below _ T4 (mkF m 26 #[.val (.ref o0), .val (.int x1)] [(.int (x1 + (1 : Int32))), (.ref pp)])
      refine own_go (fun _ => XS.iloadN X4.here hx rfl (hb hby d3_26) rfl) ?_
      show own_WP p e below _ T4 (mkF m 27 #[.val (.ref o0), .val (.int x1)] [(.int x1), (.int (x1 + (1 : Int32))), (.ref pp)])
      obtain ⟨u5, hg5, hv⟩ := own_bind hv
      obtain ⟨T5, h5, X5, e5, W5, V'5, st5⟩ := own_iastore X4 C e4 V_pp (j := (x1 + (1 : Int32))) (x := x1) hg5 (hb hby d3_27)
      refine own_go st5 ?_
      replace E_o0 := E_o0.wr W5
      replace F_o0_root := F_o0_root.other W5 (Or.inl (own_ne (by omega)))
      replace F_o0_following := F_o0_following.other W5 (Or.inl (own_ne (by omega)))
      replace F_o0_preceding := F_o0_preceding.other W5 (Or.inl (own_ne (by omega)))
      replace F_o0_depth := F_o0_depth.other W5 (Or.inl (own_ne (by omega)))
      replace V_pf := V_pf.other W5 (own_ne (by omega))
      replace V_pd := V_pd.other W5 (own_ne (by omega))
      replace V_pp := V'5
      clear V'5
      replace K := K.wr W5 (Or.inl (List.mem_of_getElem? (i := 1) rfl))
      replace N := Fr.snoc X5 N (by omega)
      show own_WP p e below _ T5 (mkF m 28 #[.val (.ref o0), .val (.int x1)] [])
      refine own_go (fun _ => XS.aloadN X5.here hx rfl (hb hby d3_28) rfl rfl) ?_
      show own_WP p e below _ T5 (mkF m 29 #[.val (.ref o0), .val (.int x1)] [(.ref o0)])
      obtain ⟨T6, X6, e6, st6⟩ := getF X5 hx hZ hown (host := "") (Or.inl (hw _ (List.mem_of_getElem? (i := 16) rfl))) Via.refl e5 F_o0_depth (g := (mkF m 29 #[.val (.ref o0), .val (.int x1)] [(.ref o0)])) rfl rfl (hb hby d3_29)
      refine own_go st6 ?_
      show own_WP p e below _ T6 (mkF m 32 #[.val (.ref o0), .val (.int x1)] [(.ref pd)])
      refine own_go (fun _ => XS.iloadN X6.here hx rfl (hb hby d3_32) rfl) ?_
      show own_WP p e below _ T6 (mkF m 33 #[.val (.ref o0), .val (.int x1)] [(.int x1), (.ref pd)])
      refine own_go (fun _ => XS.iconst X6.here hx rfl (hb hby d3_33)) ?_
      show own_WP p e below _ T6 (mkF m 34 #[.val (.ref o0), .val (.int x1)] [(.int (1 : Int32)), (.int x1), (.ref pd)])
      obtain ⟨u7, hg7, hv⟩ := own_bind hv
      obtain ⟨T7, h7, X7, e7, W7, V'7, st7⟩ := own_iastore X6 C e6 V_pd (j := x1) (x := (1 : Int32)) hg7 (hb hby d3_34)
      refine own_go st7 ?_
      replace E_o0 := E_o0.wr W7
      replace F_o0_root := F_o0_root.other W7 (Or.inl (own_ne (by omega)))
      replace F_o0_following := F_o0_following.other W7 (Or.inl (own_ne (by omega)))
      replace F_o0_preceding := F_o0_preceding.other W7 (Or.inl (own_ne (by omega)))
      replace F_o0_depth := F_o0_depth.other W7 (Or.inl (own_ne (by omega)))
      replace V_pf := V_pf.other W7 (own_ne (by omega))
      replace V_pp := V_pp.other W7 (own_ne (by omega))
      replace V_pd := V'7
      clear V'7
      replace K := K.wr W7 (Or.inl (List.mem_of_getElem? (i := 2) rfl))
      replace N := Fr.snoc X7 N (by omega)
      show own_WP p e below _ T7 (mkF m 35 #[.val (.ref o0), .val (.int x1)] [])
      refine own_go (fun _ => XS.iinc X7.here hx rfl (hb hby d3_35) rfl (l' := #[.val (.ref o0), .val (.int (x1 + (1 : Int32)))]) rfl) ?_
      show own_WP p e below _ T7 (mkF m 38 #[.val (.ref o0), .val (.int (x1 + (1 : Int32)))] [])
      refine own_go (fun _ => XS.goto X7.here hx rfl (pc0 := 38) (pc' := 2) rfl (hb hby d3_38) (by decide) (by decide)) ?_
      exact ih X7 e7 N K o_o0_pf o_pf_pp o_pp_pd g_o0 E_o0 F_o0_root F_o0_following F_o0_preceding F_o0_depth V_pf V_pp V_pd (x1 + (1 : Int32)) hv
    · replace hv := (if_neg h7).symm.trans hv
      refine own_go (fun _ => XS.icmpYes X1.here hx rfl (pc0 := 7) (pc' := 41) rfl (hb hby d3_7) rfl (XT.ii_ge_t h7) (by decide) (by decide)) ?_
      show own_WP p e below _ T1 (mkF m 41 #[.val (.ref o0), .val (.int x1)] [])
      refine own_go (fun _ => XS.aloadN X1.here hx rfl (hb hby d3_41) rfl rfl) ?_
      show own_WP p e below _ T1 (mkF m 42 #[.val (.ref o0), .val (.int x1)] [(.ref o0)])
      obtain ⟨T8, X8, e8, st8⟩ := getF X1 hx hZ hown (host := "") (Or.inl (hw _ (List.mem_of_getElem? (i := 12) rfl))) Via.refl e1 F_o0_following (g := (mkF m 42 #[.val (.ref o0), .val (.int x1)] [(.ref o0)])) rfl rfl (hb hby d3_42)
      refine own_go st8 ?_
      show own_WP p e below _ T8 (mkF m 45 #[.val (.ref o0), .val (.int x1)] [(.ref pf)])
      refine own_go (fun _ => XS.aloadN X8.here hx rfl (hb hby d3_45) rfl rfl) ?_
      show own_WP p e below _ T8 (mkF m 46 #[.val (.ref o0), .val (.int x1)] [(.ref o0), (.ref pf)])
      obtain ⟨T9, X9, e9, st9⟩ := getF X8 hx hZ hown (host := "") (Or.inl (hw _ (List.mem_of_getElem? (i := 9) rfl))) Via.refl e8 F_o0_root (g := (mkF m 46 #[.val (.ref o0), .val (.int x1)] [(.ref o0), (.ref pf)])) rfl rfl (hb hby d3_46)
      refine own_go st9 ?_
      show own_WP p e below _ T9 (mkF m 49 #[.val (.ref o0), .val (.int x1)] [(.int n), (.ref pf)])
      refine own_go (fun _ => XS.iconst X9.here hx rfl (hb hby d3_49)) ?_
      show own_WP p e below _ T9 (mkF m 50 #[.val (.ref o0), .val (.int x1)] [(.int (0 : Int32)), (.int n), (.ref pf)])
      obtain ⟨u10, hg10, hv⟩ := own_bind hv
      obtain ⟨T10, h10, X10, e10, W10, V'10, st10⟩ := own_iastore X9 C e9 V_pf (j := n) (x := (0 : Int32)) hg10 (hb hby d3_50)
      refine own_go st10 ?_
      replace E_o0 := E_o0.wr W10
      replace F_o0_root := F_o0_root.other W10 (Or.inl (own_ne (by omega)))
      replace F_o0_following := F_o0_following.other W10 (Or.inl (own_ne (by omega)))
      replace F_o0_preceding := F_o0_preceding.other W10 (Or.inl (own_ne (by omega)))
      replace F_o0_depth := F_o0_depth.other W10 (Or.inl (own_ne (by omega)))
      replace V_pp := V_pp.other W10 (own_ne (by omega))
      replace V_pd := V_pd.other W10 (own_ne (by omega))
      replace V_pf := V'10
      clear V'10
      replace K := K.wr W10 (Or.inl (List.mem_of_getElem? (i := 0) rfl))
      replace N := Fr.snoc X10 N (by omega)
      show own_WP p e below _ T10 (mkF m 51 #[.val (.ref o0), .val (.int x1)] [])
      refine own_go (fun _ => XS.aloadN X10.here hx rfl (hb hby d3_51) rfl rfl) ?_
      show own_WP p e below _ T10 (mkF m 52 #[.val (.ref o0), .val (.int x1)] [(.ref o0)])
      obtain ⟨T11, X11, e11, st11⟩ := getF X10 hx hZ hown (host := "") (Or.inl (hw _ (List.mem_of_getElem? (i := 14) rfl))) Via.refl e10 F_o0_preceding (g := (mkF m 52 #[.val (.ref o0), .val (.int x1)] [(.ref o0)])) rfl rfl (hb hby d3_52)
      refine own_go st11 ?_
      show own_WP p e below _ T11 (mkF m 55 #[.val (.ref o0), .val (.int x1)] [(.ref pp)])
      refine own_go (fun _ => XS.iconst X11.here hx rfl (hb hby d3_55)) ?_
      show own_WP p e below _ T11 (mkF m 56 #[.val (.ref o0), .val (.int x1)] [(.int (0 : Int32)), (.ref pp)])
      refine own_go (fun _ => XS.aloadN X11.here hx rfl (hb hby d3_56) rfl rfl) ?_
      show own_WP p e below _ T11 (mkF m 57 #[.val (.ref o0), .val (.int x1)] [(.ref o0), (.int (0 : Int32)), (.ref pp)])
      obtain ⟨T12, X12, e12, st12⟩ := getF X11 hx hZ hown (host := "") (Or.inl (hw _ (List.mem_of_getElem? (i := 9) rfl))) Via.refl e11 F_o0_root (g := (mkF m 57 #[.val (.ref o0), .val (.int x1)] [(.ref o0), (.int (0 : Int32)), (.ref pp)])) rfl rfl (hb hby d3_57)
      refine own_go st12 ?_
      show own_WP p e below _ T12 (mkF m 60 #[.val (.ref o0), .val (.int x1)] [(.int n), (.int (0 : Int32)), (.ref pp)])
      obtain ⟨u13, hg13, hv⟩ := own_bind hv
      obtain ⟨T13, h13, X13, e13, W13, V'13, st13⟩ := own_iastore X12 C e12 V_pp (j := (0 : Int32)) (x := n) hg13 (hb hby d3_60)
      refine own_go st13 ?_
      replace E_o0 := E_o0.wr W13
      replace F_o0_root := F_o0_root.other W13 (Or.inl (own_ne (by omega)))
      replace F_o0_following := F_o0_following.other W13 (Or.inl (own_ne (by omega)))
      replace F_o0_preceding := F_o0_preceding.other W13 (Or.inl (own_ne (by omega)))
      replace F_o0_depth := F_o0_depth.other W13 (Or.inl (own_ne (by omega)))
      replace V_pf := V_pf.other W13 (own_ne (by omega))
      replace V_pd := V_pd.other W13 (own_ne (by omega))
      replace V_pp := V'13
      clear V'13
      replace K := K.wr W13 (Or.inl (List.mem_of_getElem? (i := 1) rfl))
      replace N := Fr.snoc X13 N (by omega)
      show own_WP p e below _ T13 (mkF m 61 #[.val (.ref o0), .val (.int x1)] [])
      refine own_go (fun _ => XS.aloadN X13.here hx rfl (hb hby d3_61) rfl rfl) ?_
      show own_WP p e below _ T13 (mkF m 62 #[.val (.ref o0), .val (.int x1)] [(.ref o0)])
      obtain ⟨T14, X14, e14, st14⟩ := getF X13 hx hZ hown (host := "") (Or.inl (hw _ (List.mem_of_getElem? (i := 16) rfl))) Via.refl e13 F_o0_depth (g := (mkF m 62 #[.val (.ref o0), .val (.int x1)] [(.ref o0)])) rfl rfl (hb hby d3_62)
      refine own_go st14 ?_
      show own_WP p e below _ T14 (mkF m 65 #[.val (.ref o0), .val (.int x1)] [(.ref pd)])
      refine own_go (fun _ => XS.aloadN X14.here hx rfl (hb hby d3_65) rfl rfl) ?_
      show own_WP p e below _ T14 (mkF m 66 #[.val (.ref o0), .val (.int x1)] [(.ref o0), (.ref pd)])
      obtain ⟨T15, X15, e15, st15⟩ := getF X14 hx hZ hown (host := "") (Or.inl (hw _ (List.mem_of_getElem? (i := 9) rfl))) Via.refl e14 F_o0_root (g := (mkF m 66 #[.val (.ref o0), .val (.int x1)] [(.ref o0), (.ref pd)])) rfl rfl (hb hby d3_66)
      refine own_go st15 ?_
      show own_WP p e below _ T15 (mkF m 69 #[.val (.ref o0), .val (.int x1)] [(.int n), (.ref pd)])
      refine own_go (fun _ => XS.iconst X15.here hx rfl (hb hby d3_69)) ?_
      show own_WP p e below _ T15 (mkF m 70 #[.val (.ref o0), .val (.int x1)] [(.int (0 : Int32)), (.int n), (.ref pd)])
      obtain ⟨u16, hg16, hv⟩ := own_bind hv
      obtain ⟨T16, h16, X16, e16, W16, V'16, st16⟩ := own_iastore X15 C e15 V_pd (j := n) (x := (0 : Int32)) hg16 (hb hby d3_70)
      refine own_go st16 ?_
      replace E_o0 := E_o0.wr W16
      replace F_o0_root := F_o0_root.other W16 (Or.inl (own_ne (by omega)))
      replace F_o0_following := F_o0_following.other W16 (Or.inl (own_ne (by omega)))
      replace F_o0_preceding := F_o0_preceding.other W16 (Or.inl (own_ne (by omega)))
      replace F_o0_depth := F_o0_depth.other W16 (Or.inl (own_ne (by omega)))
      replace V_pf := V_pf.other W16 (own_ne (by omega))
      replace V_pp := V_pp.other W16 (own_ne (by omega))
      replace V_pd := V'16
      clear V'16
      replace K := K.wr W16 (Or.inl (List.mem_of_getElem? (i := 2) rfl))
      replace N := Fr.snoc X16 N (by omega)
      show own_WP p e below _ T16 (mkF m 71 #[.val (.ref o0), .val (.int x1)] [])
      obtain rfl := Option.some.inj hv
      exact own_retV X16 C (hb hby d3_71) (by rw [e16]; exact hP _ _ _ N K ⟨rfl, V_pf, V_pp, V_pd⟩) (by decide) (by decide)
def f3_0 (n : Int32) (v_pf : List Int32) (v_pp : List Int32) (v_pd : List Int32) : Option ((List Int32) × (List Int32) × (List Int32)) := (f3_2 20 n v_pf v_pp v_pd (0 : Int32))
set_option maxRecDepth 65536 in
set_option maxHeartbeats 40000000 in
theorem b3_0 {p : Program} {l : Launch} {e : Env} {s : State} {m : MethodId} {args : Array Value} {below : List Frame} {meth : Method} {c : Code} {Z : State} {a0 : Array Value} {h0 : Heap} {n0 : Nat} {P : Option Value → Heap → List Loc → Prop} (hw : ∀ d ∈ tables_1, d.before a0 Z = true) (C : own_Ctx p s m meth c Z (⟨"com/example/gridfare/gridfare/engine/LoweringTree", "plant", "()V"⟩ : MethodName) prog_39_method_2_code 2 none) (Z0 : n0 ≤ h0.size) {o0 : Nat} {pf : Nat} {pp : Nat} {pd : Nat} {n : Int32} (rr : (List Int32) × (List Int32) × (List Int32)) (hP : ∀ v h L, Fr n0 L → Keep h0 h [pf, pp, pd] → E3 Z h0 o0 pf pp pd n rr v h → P v h L)
    {T : State} {locs : List Loc} {h : Heap} {v_pf : List Int32} {v_pp : List Int32} {v_pd : List Int32} (X : Stand p l e rmR3 s m args below meth c T locs 0 0) (e0 : T.heap = h) (N : Fr n0 locs) (K : Keep h0 h [pf, pp, pd]) (o_o0_pf : o0 < pf) (o_pf_pp : pf < pp) (o_pp_pd : pp < pd) (g_o0 : n0 ≤ o0) (E_o0 : Exa Z h o0 "com/example/gridfare/gridfare/engine/LoweringTree") (F_o0_root : Fld Z h o0 "com/example/gridfare/gridfare/engine/LoweringTree" "root" "I" (.int n)) (F_o0_following : Fld Z h o0 "com/example/gridfare/gridfare/engine/LoweringTree" "following" "[I" (.ref pf)) (F_o0_preceding : Fld Z h o0 "com/example/gridfare/gridfare/engine/LoweringTree" "preceding" "[I" (.ref pp)) (F_o0_depth : Fld Z h o0 "com/example/gridfare/gridfare/engine/LoweringTree" "depth" "[I" (.ref pd)) (V_pf : own_AI Z h pf .int v_pf) (V_pp : own_AI Z h pp .int v_pp) (V_pd : own_AI Z h pd .int v_pd) (hv : f3_0 n v_pf v_pp v_pd = some rr) :
    own_WP p e below (own_Q s P rmR3.cells rmR3.slots) T (mkF m 0 #[.val (.ref o0), .unset] []) := by
  obtain ⟨hx, hZ, hby, hml, hown, hnm, hret, hlk⟩ := id C
  replace hown : s.vm.findClass "com/example/gridfare/gridfare/engine/LoweringTree" = some m.cls := hown
  unfold f3_0 at hv
  show own_WP p e below _ T (mkF m 0 #[.val (.ref o0), .unset] [])
  refine own_go (fun _ => XS.iconst X.here hx rfl (hb hby d3_0)) ?_
  show own_WP p e below _ T (mkF m 1 #[.val (.ref o0), .unset] [(.int (0 : Int32))])
  refine own_go (fun _ => XS.istoreN X.here hx rfl (hb hby d3_1) rfl (l' := #[.val (.ref o0), .val (.int (0 : Int32))]) rfl) ?_
  exact b3_2 hw C Z0 rr hP 20 X e0 N K o_o0_pf o_pf_pp o_pp_pd g_o0 E_o0 F_o0_root F_o0_following F_o0_preceding F_o0_depth V_pf V_pp V_pd (0 : Int32) hv
theorem ef3 (m : MethodId) (o0 : Nat) : entryFrame m #[(.ref o0)] 2 = (mkF m 0 #[.val (.ref o0), .unset] []) := by first | (simp [entryFrame, mkF, argsToLocals, Value.category]; done) | rfl
theorem pd3 : parseMethodDescriptor "()V" = some ⟨[], none⟩ := by decide +kernel
theorem pn3 : plainFor (⟨"com/example/gridfare/gridfare/engine/LoweringTree", "plant", "()V"⟩ : MethodName) = true := plainFor_of_name (by first | (simp [plainName, overriddenIn]; done) | decide +kernel)
theorem rm3 (l : Launch) (Z : State) (a0 : Array Value) (hw : ∀ d ∈ tables_1, d.before a0 Z = true) (n0 : Nat) (h0 : Heap) (Z0 : n0 ≤ h0.size) {o0 : Nat} {pf : Nat} {pp : Nat} {pd : Nat} {n : Int32} {v_pf : List Int32} {v_pp : List Int32} {v_pd : List Int32} (o_o0_pf : o0 < pf) (o_pf_pp : pf < pp) (o_pp_pd : pp < pd) (g_o0 : n0 ≤ o0) (E_o0 : Exa Z h0 o0 "com/example/gridfare/gridfare/engine/LoweringTree") (F_o0_root : Fld Z h0 o0 "com/example/gridfare/gridfare/engine/LoweringTree" "root" "I" (.int n)) (F_o0_following : Fld Z h0 o0 "com/example/gridfare/gridfare/engine/LoweringTree" "following" "[I" (.ref pf)) (F_o0_preceding : Fld Z h0 o0 "com/example/gridfare/gridfare/engine/LoweringTree" "preceding" "[I" (.ref pp)) (F_o0_depth : Fld Z h0 o0 "com/example/gridfare/gridfare/engine/LoweringTree" "depth" "[I" (.ref pd)) (V_pf : own_AI Z h0 pf .int v_pf) (V_pp : own_AI Z h0 pp .int v_pp) (V_pd : own_AI Z h0 pd .int v_pd)   (rr : (List Int32) × (List Int32) × (List Int32)) (hf : f3_0 n v_pf v_pp v_pd = some rr) :
    own_Met l Z (⟨"com/example/gridfare/gridfare/engine/LoweringTree", "plant", "()V"⟩ : MethodName) prog_39_method_2_code 2 none [] rmR3 #[(.ref o0)] h0 (fun v h L => Fr n0 L ∧ Keep h0 h [pf, pp, pd] ∧ E3 Z h0 o0 pf pp pd n rr v h) := by
  refine own_body pn3 ?_
  intro p e s m below meth c s₁ C X e0
  exact own_cast (ef3 m o0) (b3_0 hw C Z0 rr (fun v h L a b c => ⟨a, b, c⟩) X e0 (Fr.nil n0) (Keep.refl h0 [pf, pp, pd]) o_o0_pf o_pf_pp o_pp_pd g_o0 E_o0 F_o0_root F_o0_following F_o0_preceding F_o0_depth V_pf V_pp V_pd hf)
theorem d1_0 : decode prog_39_method_1_code 0 = .ok (.aload_n 0, 1) := by decide +kernel
theorem d1_1 : decode prog_39_method_1_code 1 = .ok (.invokespecial 1, 3) := by decide +kernel
theorem d1_4 : decode prog_39_method_1_code 4 = .ok (.aload_n 0, 1) := by decide +kernel
theorem d1_5 : decode prog_39_method_1_code 5 = .ok (.iload_n 1, 1) := by decide +kernel
theorem d1_6 : decode prog_39_method_1_code 6 = .ok (.putfield 7, 3) := by decide +kernel
theorem d1_9 : decode prog_39_method_1_code 9 = .ok (.aload_n 0, 1) := by decide +kernel
theorem d1_10 : decode prog_39_method_1_code 10 = .ok (.iload_n 1, 1) := by decide +kernel
theorem d1_11 : decode prog_39_method_1_code 11 = .ok (.iconst 1, 1) := by decide +kernel
theorem d1_12 : decode prog_39_method_1_code 12 = .ok (.iadd, 1) := by decide +kernel
theorem d1_13 : decode prog_39_method_1_code 13 = .ok (.newarray .int, 2) := by decide +kernel
theorem d1_15 : decode prog_39_method_1_code 15 = .ok (.putfield 13, 3) := by decide +kernel
theorem d1_18 : decode prog_39_method_1_code 18 = .ok (.aload_n 0, 1) := by decide +kernel
theorem d1_19 : decode prog_39_method_1_code 19 = .ok (.iload_n 1, 1) := by decide +kernel
theorem d1_20 : decode prog_39_method_1_code 20 = .ok (.iconst 1, 1) := by decide +kernel
theorem d1_21 : decode prog_39_method_1_code 21 = .ok (.iadd, 1) := by decide +kernel
theorem d1_22 : decode prog_39_method_1_code 22 = .ok (.newarray .int, 2) := by decide +kernel
theorem d1_24 : decode prog_39_method_1_code 24 = .ok (.putfield 17, 3) := by decide +kernel
theorem d1_27 : decode prog_39_method_1_code 27 = .ok (.aload_n 0, 1) := by decide +kernel
theorem d1_28 : decode prog_39_method_1_code 28 = .ok (.iload_n 1, 1) := by decide +kernel
theorem d1_29 : decode prog_39_method_1_code 29 = .ok (.iconst 1, 1) := by decide +kernel
theorem d1_30 : decode prog_39_method_1_code 30 = .ok (.iadd, 1) := by decide +kernel
theorem d1_31 : decode prog_39_method_1_code 31 = .ok (.newarray .int, 2) := by decide +kernel
theorem d1_33 : decode prog_39_method_1_code 33 = .ok (.putfield 20, 3) := by decide +kernel
theorem d1_36 : decode prog_39_method_1_code 36 = .ok (.aload_n 0, 1) := by decide +kernel
theorem d1_37 : decode prog_39_method_1_code 37 = .ok (.invokevirtual 23, 3) := by decide +kernel
theorem d1_40 : decode prog_39_method_1_code 40 = .ok (.return_, 1) := by decide +kernel
def rmR1 : Room := { frames := 1, cells := 3, slots := 21, locals := 13 }
def E1 (Z : State) (h0 : Heap) (o0 : Nat)  (rr : Int32 × (List Int32) × (List Int32) × (List Int32)) (v : Option Value) (h : Heap) : Prop := ∃ b13 b22 b31, h0.size ≤ b13 ∧ b13 < b22 ∧ b22 < b31 ∧ v = none ∧ Exa Z h o0 "com/example/gridfare/gridfare/engine/LoweringTree" ∧ Fld Z h o0 "com/example/gridfare/gridfare/engine/LoweringTree" "root" "I" (.int (rr.1)) ∧ Fld Z h o0 "com/example/gridfare/gridfare/engine/LoweringTree" "following" "[I" (.ref b13) ∧ Fld Z h o0 "com/example/gridfare/gridfare/engine/LoweringTree" "preceding" "[I" (.ref b22) ∧ Fld Z h o0 "com/example/gridfare/gridfare/engine/LoweringTree" "depth" "[I" (.ref b31) ∧ own_AI Z h b13 .int (rr.2.1) ∧ own_AI Z h b22 .int (rr.2.2.1) ∧ own_AI Z h b31 .int (rr.2.2.2)
def f1_0 (x1 : Int32) : Option (Int32 × (List Int32) × (List Int32) × (List Int32)) := (if (x1 + (1 : Int32)) < 0 ∨ 7 < (x1 + (1 : Int32)).toInt then none else (if (x1 + (1 : Int32)) < 0 ∨ 7 < (x1 + (1 : Int32)).toInt then none else (if (x1 + (1 : Int32)) < 0 ∨ 7 < (x1 + (1 : Int32)).toInt then none else ((f3_0 x1 (List.replicate ((x1 + (1 : Int32))).toNatClampNeg 0) (List.replicate ((x1 + (1 : Int32))).toNatClampNeg 0) (List.replicate ((x1 + (1 : Int32))).toNatClampNeg 0)).bind fun rr9 => (some (x1, (rr9.1), (rr9.2.1), (rr9.2.2)))))))
set_option maxRecDepth 65536 in
set_option maxHeartbeats 40000000 in
theorem b1_0 {p : Program} {l : Launch} {e : Env} {s : State} {m : MethodId} {args : Array Value} {below : List Frame} {meth : Method} {c : Code} {Z : State} {a0 : Array Value} {h0 : Heap} {n0 : Nat} {P : Option Value → Heap → List Loc → Prop} (hw : ∀ d ∈ tables_1, d.before a0 Z = true) (C : own_Ctx p s m meth c Z (⟨"com/example/gridfare/gridfare/engine/LoweringTree", "<init>", "(I)V"⟩ : MethodName) prog_39_method_1_code 2 none) (Z0 : n0 ≤ h0.size) {o0 : Nat}  (rr : Int32 × (List Int32) × (List Int32) × (List Int32)) (hP : ∀ v h L, Fr n0 L → Keep h0 h [o0] → E1 Z h0 o0 rr v h → P v h L)
    {T : State} {locs : List Loc} {h : Heap} {c_o0_root : Int32} (X : Stand p l e rmR1 s m args below meth c T locs 0 0) (e0 : T.heap = h) (N : Fr n0 locs) (K : Keep h0 h [o0]) (g_o0 : n0 ≤ o0) (E_o0 : Exa Z h o0 "com/example/gridfare/gridfare/engine/LoweringTree") (F_o0_root : Fld Z h o0 "com/example/gridfare/gridfare/engine/LoweringTree" "root" "I" (.int c_o0_root)) (F_o0_following : Fld Z h o0 "com/example/gridfare/gridfare/engine/LoweringTree" "following" "[I" .null) (F_o0_preceding : Fld Z h o0 "com/example/gridfare/gridfare/engine/LoweringTree" "preceding" "[I" .null) (F_o0_depth : Fld Z h o0 "com/example/gridfare/gridfare/engine/LoweringTree" "depth" "[I" .null) (x1 : Int32) (hv : f1_0 x1 = some rr) :
    own_WP p e below (own_Q s P rmR1.cells rmR1.slots) T (mkF m 0 #[.val (.ref o0), .val (.int x1)] []) := by
  obtain ⟨hx, hZ, hby, hml, hown, hnm, hret, hlk⟩ := id C
  replace hown : s.vm.findClass "com/example/gridfare/gridfare/engine/LoweringTree" = some m.cls := hown
  unfold f1_0 at hv
  show own_WP p e below _ T (mkF m 0 #[.val (.ref o0), .val (.int x1)] [])
  refine own_go (fun _ => XS.aloadN X.here hx rfl (hb hby d1_0) rfl rfl) ?_
  show own_WP p e below _ T (mkF m 1 #[.val (.ref o0), .val (.int x1)] [(.ref o0)])
  obtain ⟨T1, X1, e1, st1⟩ := initO X hx hZ hown (hw _ (List.mem_of_getElem? (i := 6) rfl)) (hw _ (List.mem_of_getElem? (i := 7) rfl)) (hw _ (List.mem_of_getElem? (i := 8) rfl)) e0 (g := (mkF m 1 #[.val (.ref o0), .val (.int x1)] [(.ref o0)])) rfl (by rw [hml]; rfl) rfl (hb hby d1_1) (by decide) (W := 0) (by show 2 * 0 + _ ≤ _; exact Nat.le_of_eq rfl) (by decide)
  refine own_go st1 ?_
  show own_WP p e below _ T1 (mkF m 4 #[.val (.ref o0), .val (.int x1)] [])
  refine own_go (fun _ => XS.aloadN X1.here hx rfl (hb hby d1_4) rfl rfl) ?_
  show own_WP p e below _ T1 (mkF m 5 #[.val (.ref o0), .val (.int x1)] [(.ref o0)])
  refine own_go (fun _ => XS.iloadN X1.here hx rfl (hb hby d1_5) rfl) ?_
  show own_WP p e below _ T1 (mkF m 6 #[.val (.ref o0), .val (.int x1)] [(.int x1), (.ref o0)])
  obtain ⟨T2, h2, X2, e2, W2, st2⟩ := putF X1 hx hZ hown (host := "") (Or.inl (hw _ (List.mem_of_getElem? (i := 9) rfl))) Via.refl e1 F_o0_root E_o0 (Or.inr ⟨(hw _ (List.mem_of_getElem? (i := 10) rfl)), rfl, hnm⟩) (hw _ (List.mem_of_getElem? (i := 1) rfl)) (ty := .int) (by decide) rfl rfl (g := (mkF m 6 #[.val (.ref o0), .val (.int x1)] [(.int x1), (.ref o0)])) rfl rfl (hb hby d1_6)
  refine own_go st2 ?_
  replace E_o0 := E_o0.wr W2
  replace F_o0_root := F_o0_root.same W2
  replace F_o0_following := F_o0_following.other W2 (Or.inr (slot_ne (Or.inr (hw _ (List.mem_of_getElem? (i := 13) rfl))) (Or.inr (hw _ (List.mem_of_getElem? (i := 10) rfl))) (by decide) (t := (.array .int)) (t' := .int) (by decide) (by decide)))
  replace F_o0_preceding := F_o0_preceding.other W2 (Or.inr (slot_ne (Or.inr (hw _ (List.mem_of_getElem? (i := 15) rfl))) (Or.inr (hw _ (List.mem_of_getElem? (i := 10) rfl))) (by decide) (t := (.array .int)) (t' := .int) (by decide) (by decide)))
  replace F_o0_depth := F_o0_depth.other W2 (Or.inr (slot_ne (Or.inr (hw _ (List.mem_of_getElem? (i := 17) rfl))) (Or.inr (hw _ (List.mem_of_getElem? (i := 10) rfl))) (by decide) (t := (.array .int)) (t' := .int) (by decide) (by decide)))
  replace K := K.wr W2 (Or.inl (List.mem_of_getElem? (i := 0) rfl))
  replace N := Fr.snoc X2 N (by omega)
  show own_WP p e below _ T2 (mkF m 9 #[.val (.ref o0), .val (.int x1)] [])
  refine own_go (fun _ => XS.aloadN X2.here hx rfl (hb hby d1_9) rfl rfl) ?_
  show own_WP p e below _ T2 (mkF m 10 #[.val (.ref o0), .val (.int x1)] [(.ref o0)])
  refine own_go (fun _ => XS.iloadN X2.here hx rfl (hb hby d1_10) rfl) ?_
  show own_WP p e below _ T2 (mkF m 11 #[.val (.ref o0), .val (.int x1)] [(.int x1), (.ref o0)])
  refine own_go (fun _ => XS.iconst X2.here hx rfl (hb hby d1_11)) ?_
  show own_WP p e below _ T2 (mkF m 12 #[.val (.ref o0), .val (.int x1)] [(.int (1 : Int32)), (.int x1), (.ref o0)])
  refine own_go (fun _ => XS.iadd X2.here hx rfl (hb hby d1_12) rfl) ?_
  show own_WP p e below _ T2 (mkF m 13 #[.val (.ref o0), .val (.int x1)] [(.int (x1 + (1 : Int32))), (.ref o0)])
  by_cases h13 : (x1 + (1 : Int32)) < 0 ∨ 7 < (x1 + (1 : Int32)).toInt
  · cases ((if_pos h13).symm.trans hv)
  replace hv := (if_neg h13).symm.trans hv
  obtain ⟨T3, h3, b13, X3, e3, E3, hb_b13, V_b13, st3⟩ := own_newI X2 C e2 (aty := .int) (ty := .int) rfl rfl rfl (hw _ (List.mem_of_getElem? (i := 11) rfl)) (n := (x1 + (1 : Int32))) (fun q => h13 (Or.inl q)) (cap := 7) (own_cap (k := 7) rfl (fun q => h13 (Or.inr q))) (by decide) (by decide) (by decide) (pc := 13) (Ls := #[.val (.ref o0), .val (.int x1)]) (rest := [(.ref o0)]) (hb hby d1_13)
  refine own_go st3 ?_
  have o_o0_b13 : o0 < b13 := by have q : o0 < h2.size := E_o0.lt; omega
  have z_b13 : h0.size ≤ b13 := by have q := K.1; omega
  replace E_o0 := E_o0.ext E3
  replace F_o0_root := F_o0_root.ext E3
  replace F_o0_following := F_o0_following.ext E3
  replace F_o0_preceding := F_o0_preceding.ext E3
  replace F_o0_depth := F_o0_depth.ext E3
  replace K := K.ext E3
  show own_WP p e below _ T3 (mkF m 15 #[.val (.ref o0), .val (.int x1)] [(.ref b13), (.ref o0)])
  obtain ⟨T4, h4, X4, e4, W4, st4⟩ := putF X3 hx hZ hown (host := "") (Or.inl (hw _ (List.mem_of_getElem? (i := 12) rfl))) Via.refl e3 F_o0_following E_o0 (Or.inr ⟨(hw _ (List.mem_of_getElem? (i := 13) rfl)), rfl, hnm⟩) (hw _ (List.mem_of_getElem? (i := 1) rfl)) (ty := (.array .int)) (by decide) rfl rfl (g := (mkF m 15 #[.val (.ref o0), .val (.int x1)] [(.ref b13), (.ref o0)])) rfl rfl (hb hby d1_15)
  refine own_go st4 ?_
  replace E_o0 := E_o0.wr W4
  replace F_o0_root := F_o0_root.other W4 (Or.inr (slot_ne (Or.inr (hw _ (List.mem_of_getElem? (i := 10) rfl))) (Or.inr (hw _ (List.mem_of_getElem? (i := 13) rfl))) (by decide) (t := .int) (t' := (.array .int)) (by decide) (by decide)))
  replace F_o0_following := F_o0_following.same W4
  replace F_o0_preceding := F_o0_preceding.other W4 (Or.inr (slot_ne (Or.inr (hw _ (List.mem_of_getElem? (i := 15) rfl))) (Or.inr (hw _ (List.mem_of_getElem? (i := 13) rfl))) (by decide) (t := (.array .int)) (t' := (.array .int)) (by decide) (by decide)))
  replace F_o0_depth := F_o0_depth.other W4 (Or.inr (slot_ne (Or.inr (hw _ (List.mem_of_getElem? (i := 17) rfl))) (Or.inr (hw _ (List.mem_of_getElem? (i := 13) rfl))) (by decide) (t := (.array .int)) (t' := (.array .int)) (by decide) (by decide)))
  replace V_b13 := V_b13.other W4 (own_ne (by omega))
  replace K := K.wr W4 (Or.inl (List.mem_of_getElem? (i := 0) rfl))
  replace N := Fr.snoc X4 N (by omega)
  show own_WP p e below _ T4 (mkF m 18 #[.val (.ref o0), .val (.int x1)] [])
  refine own_go (fun _ => XS.aloadN X4.here hx rfl (hb hby d1_18) rfl rfl) ?_
  show own_WP p e below _ T4 (mkF m 19 #[.val (.ref o0), .val (.int x1)] [(.ref o0)])
  refine own_go (fun _ => XS.iloadN X4.here hx rfl (hb hby d1_19) rfl) ?_
  show own_WP p e below _ T4 (mkF m 20 #[.val (.ref o0), .val (.int x1)] [(.int x1), (.ref o0)])
  refine own_go (fun _ => XS.iconst X4.here hx rfl (hb hby d1_20)) ?_
  show own_WP p e below _ T4 (mkF m 21 #[.val (.ref o0), .val (.int x1)] [(.int (1 : Int32)), (.int x1), (.ref o0)])
  refine own_go (fun _ => XS.iadd X4.here hx rfl (hb hby d1_21) rfl) ?_
  show own_WP p e below _ T4 (mkF m 22 #[.val (.ref o0), .val (.int x1)] [(.int (x1 + (1 : Int32))), (.ref o0)])
  by_cases h22 : (x1 + (1 : Int32)) < 0 ∨ 7 < (x1 + (1 : Int32)).toInt
  · cases ((if_pos h22).symm.trans hv)
  replace hv := (if_neg h22).symm.trans hv
  obtain ⟨T5, h5, b22, X5, e5, E5, hb_b22, V_b22, st5⟩ := own_newI X4 C e4 (aty := .int) (ty := .int) rfl rfl rfl (hw _ (List.mem_of_getElem? (i := 11) rfl)) (n := (x1 + (1 : Int32))) (fun q => h22 (Or.inl q)) (cap := 7) (own_cap (k := 7) rfl (fun q => h22 (Or.inr q))) (by decide) (by decide) (by decide) (pc := 22) (Ls := #[.val (.ref o0), .val (.int x1)]) (rest := [(.ref o0)]) (hb hby d1_22)
  refine own_go st5 ?_
  have o_b13_b22 : b13 < b22 := by have q : b13 < h4.size := V_b13.lt; omega
  replace E_o0 := E_o0.ext E5
  replace F_o0_root := F_o0_root.ext E5
  replace F_o0_following := F_o0_following.ext E5
  replace F_o0_preceding := F_o0_preceding.ext E5
  replace F_o0_depth := F_o0_depth.ext E5
  replace V_b13 := V_b13.ext E5
  replace K := K.ext E5
  show own_WP p e below _ T5 (mkF m 24 #[.val (.ref o0), .val (.int x1)] [(.ref b22), (.ref o0)])
  obtain ⟨T6, h6, X6, e6, W6, st6⟩ := putF X5 hx hZ hown (host := "") (Or.inl (hw _ (List.mem_of_getElem? (i := 14) rfl))) Via.refl e5 F_o0_preceding E_o0 (Or.inr ⟨(hw _ (List.mem_of_getElem? (i := 15) rfl)), rfl, hnm⟩) (hw _ (List.mem_of_getElem? (i := 1) rfl)) (ty := (.array .int)) (by decide) rfl rfl (g := (mkF m 24 #[.val (.ref o0), .val (.int x1)] [(.ref b22), (.ref o0)])) rfl rfl (hb hby d1_24)
  refine own_go st6 ?_
  replace E_o0 := E_o0.wr W6
  replace F_o0_root := F_o0_root.other W6 (Or.inr (slot_ne (Or.inr (hw _ (List.mem_of_getElem? (i := 10) rfl))) (Or.inr (hw _ (List.mem_of_getElem? (i := 15) rfl))) (by decide) (t := .int) (t' := (.array .int)) (by decide) (by decide)))
  replace F_o0_following := F_o0_following.other W6 (Or.inr (slot_ne (Or.inr (hw _ (List.mem_of_getElem? (i := 13) rfl))) (Or.inr (hw _ (List.mem_of_getElem? (i := 15) rfl))) (by decide) (t := (.array .int)) (t' := (.array .int)) (by decide) (by decide)))
  replace F_o0_preceding := F_o0_preceding.same W6
  replace F_o0_depth := F_o0_depth.other W6 (Or.inr (slot_ne (Or.inr (hw _ (List.mem_of_getElem? (i := 17) rfl))) (Or.inr (hw _ (List.mem_of_getElem? (i := 15) rfl))) (by decide) (t := (.array .int)) (t' := (.array .int)) (by decide) (by decide)))
  replace V_b13 := V_b13.other W6 (own_ne (by omega))
  replace V_b22 := V_b22.other W6 (own_ne (by omega))
  replace K := K.wr W6 (Or.inl (List.mem_of_getElem? (i := 0) rfl))
  replace N := Fr.snoc X6 N (by omega)
  show own_WP p e below _ T6 (mkF m 27 #[.val (.ref o0), .val (.int x1)] [])
  refine own_go (fun _ => XS.aloadN X6.here hx rfl (hb hby d1_27) rfl rfl) ?_
  show own_WP p e below _ T6 (mkF m 28 #[.val (.ref o0), .val (.int x1)] [(.ref o0)])
  refine own_go (fun _ => XS.iloadN X6.here hx rfl (hb hby d1_28) rfl) ?_
  show own_WP p e below _ T6 (mkF m 29 #[.val (.ref o0), .val (.int x1)] [(.int x1), (.ref o0)])
  refine own_go (fun _ => XS.iconst X6.here hx rfl (hb hby d1_29)) ?_
  show own_WP p e below _ T6 (mkF m 30 #[.val (.ref o0), .val (.int x1)] [(.int (1 : Int32)), (.int x1), (.ref o0)])
  refine own_go (fun _ => XS.iadd X6.here hx rfl (hb hby d1_30) rfl) ?_
  show own_WP p e below _ T6 (mkF m 31 #[.val (.ref o0), .val (.int x1)] [(.int (x1 + (1 : Int32))), (.ref o0)])
  by_cases h31 : (x1 + (1 : Int32)) < 0 ∨ 7 < (x1 + (1 : Int32)).toInt
  · cases ((if_pos h31).symm.trans hv)
  replace hv := (if_neg h31).symm.trans hv
  obtain ⟨T7, h7, b31, X7, e7, E7, hb_b31, V_b31, st7⟩ := own_newI X6 C e6 (aty := .int) (ty := .int) rfl rfl rfl (hw _ (List.mem_of_getElem? (i := 11) rfl)) (n := (x1 + (1 : Int32))) (fun q => h31 (Or.inl q)) (cap := 7) (own_cap (k := 7) rfl (fun q => h31 (Or.inr q))) (by decide) (by decide) (by decide) (pc := 31) (Ls := #[.val (.ref o0), .val (.int x1)]) (rest := [(.ref o0)]) (hb hby d1_31)
  refine own_go st7 ?_
  have o_b22_b31 : b22 < b31 := by have q : b22 < h6.size := V_b22.lt; omega
  replace E_o0 := E_o0.ext E7
  replace F_o0_root := F_o0_root.ext E7
  replace F_o0_following := F_o0_following.ext E7
  replace F_o0_preceding := F_o0_preceding.ext E7
  replace F_o0_depth := F_o0_depth.ext E7
  replace V_b13 := V_b13.ext E7
  replace V_b22 := V_b22.ext E7
  replace K := K.ext E7
  show own_WP p e below _ T7 (mkF m 33 #[.val (.ref o0), .val (.int x1)] [(.ref b31), (.ref o0)])
  obtain ⟨T8, h8, X8, e8, W8, st8⟩ := putF X7 hx hZ hown (host := "") (Or.inl (hw _ (List.mem_of_getElem? (i := 16) rfl))) Via.refl e7 F_o0_depth E_o0 (Or.inr ⟨(hw _ (List.mem_of_getElem? (i := 17) rfl)), rfl, hnm⟩) (hw _ (List.mem_of_getElem? (i := 1) rfl)) (ty := (.array .int)) (by decide) rfl rfl (g := (mkF m 33 #[.val (.ref o0), .val (.int x1)] [(.ref b31), (.ref o0)])) rfl rfl (hb hby d1_33)
  refine own_go st8 ?_
  replace E_o0 := E_o0.wr W8
  replace F_o0_root := F_o0_root.other W8 (Or.inr (slot_ne (Or.inr (hw _ (List.mem_of_getElem? (i := 10) rfl))) (Or.inr (hw _ (List.mem_of_getElem? (i := 17) rfl))) (by decide) (t := .int) (t' := (.array .int)) (by decide) (by decide)))
  replace F_o0_following := F_o0_following.other W8 (Or.inr (slot_ne (Or.inr (hw _ (List.mem_of_getElem? (i := 13) rfl))) (Or.inr (hw _ (List.mem_of_getElem? (i := 17) rfl))) (by decide) (t := (.array .int)) (t' := (.array .int)) (by decide) (by decide)))
  replace F_o0_preceding := F_o0_preceding.other W8 (Or.inr (slot_ne (Or.inr (hw _ (List.mem_of_getElem? (i := 15) rfl))) (Or.inr (hw _ (List.mem_of_getElem? (i := 17) rfl))) (by decide) (t := (.array .int)) (t' := (.array .int)) (by decide) (by decide)))
  replace F_o0_depth := F_o0_depth.same W8
  replace V_b13 := V_b13.other W8 (own_ne (by omega))
  replace V_b22 := V_b22.other W8 (own_ne (by omega))
  replace V_b31 := V_b31.other W8 (own_ne (by omega))
  replace K := K.wr W8 (Or.inl (List.mem_of_getElem? (i := 0) rfl))
  replace N := Fr.snoc X8 N (by omega)
  show own_WP p e below _ T8 (mkF m 36 #[.val (.ref o0), .val (.int x1)] [])
  refine own_go (fun _ => XS.aloadN X8.here hx rfl (hb hby d1_36) rfl rfl) ?_
  show own_WP p e below _ T8 (mkF m 37 #[.val (.ref o0), .val (.int x1)] [(.ref o0)])
  obtain ⟨rr9, hf9, hv⟩ := own_bind hv
  obtain ⟨T9, v9, L9, X9, ⟨N9, K9, Q9⟩, st9⟩ := own_callV X8 C (a := o0) (argsL := []) (rm3 l Z a0 hw n0 h8 (by have q := K.1; omega) (by omega) (by omega) (by omega) (by omega) E_o0 F_o0_root F_o0_following F_o0_preceding F_o0_depth V_b13 V_b22 V_b31 rr9 hf9) (hw _ (List.mem_of_getElem? (i := 18) rfl)) (hw _ (List.mem_of_getElem? (i := 19) rfl)) (hw _ (List.mem_of_getElem? (i := 21) rfl)) (hw _ (List.mem_of_getElem? (i := 20) rfl)) (hw _ (List.mem_of_getElem? (i := 2) rfl)) (hw _ (List.mem_of_getElem? (i := 22) rfl)) (by decide) e8 E_o0 (W := 0) (pc := 37) (Ls := #[.val (.ref o0), .val (.int x1)]) rfl (lenOf pd3 rfl) (rest := []) (stk := [(.ref o0)]) rfl (Nat.le_of_ble_eq_true rfl) (hb hby d1_37) (by decide) (by decide) (by decide) (by decide)
  replace N := Fr.app N N9
  replace E_o0 := E_o0.keep K9
  replace F_o0_root := F_o0_root.keep K9 (ninS (own_ne (by omega)) (ninS (own_ne (by omega)) (ninS (own_ne (by omega)) nin0)))
  replace F_o0_following := F_o0_following.keep K9 (ninS (own_ne (by omega)) (ninS (own_ne (by omega)) (ninS (own_ne (by omega)) nin0)))
  replace F_o0_preceding := F_o0_preceding.keep K9 (ninS (own_ne (by omega)) (ninS (own_ne (by omega)) (ninS (own_ne (by omega)) nin0)))
  replace F_o0_depth := F_o0_depth.keep K9 (ninS (own_ne (by omega)) (ninS (own_ne (by omega)) (ninS (own_ne (by omega)) nin0)))
  clear V_b13
  clear V_b22
  clear V_b31
  obtain ⟨rfl, V_b13, V_b22, V_b31⟩ := Q9
  replace K := K.trans K9 (allS (Or.inr (by omega)) (allS (Or.inr (by omega)) (allS (Or.inr (by omega)) all0)))
  refine own_go st9 ?_
  show own_WP p e below _ T9 (mkF m 40 #[.val (.ref o0), .val (.int x1)] [])
  obtain rfl := Option.some.inj hv
  exact own_retV X9 C (hb hby d1_40) (hP _ _ _ N K ⟨b13, b22, b31, (by omega), (by omega), (by omega), rfl, E_o0, F_o0_root, F_o0_following, F_o0_preceding, F_o0_depth, V_b13, V_b22, V_b31⟩) (by decide) (by decide)
theorem ef1 (m : MethodId) (o0 : Nat) (x1 : Int32) : entryFrame m #[(.ref o0), (.int x1)] 2 = (mkF m 0 #[.val (.ref o0), .val (.int x1)] []) := by first | (simp [entryFrame, mkF, argsToLocals, Value.category]; done) | rfl
theorem pd1 : parseMethodDescriptor "(I)V" = some ⟨[.int], none⟩ := by decide +kernel
theorem pn1 : plainFor (⟨"com/example/gridfare/gridfare/engine/LoweringTree", "<init>", "(I)V"⟩ : MethodName) = true := plainFor_of_name (by first | (simp [plainName, overriddenIn]; done) | decide +kernel)
theorem rm1 (l : Launch) (Z : State) (a0 : Array Value) (hw : ∀ d ∈ tables_1, d.before a0 Z = true) (n0 : Nat) (h0 : Heap) (Z0 : n0 ≤ h0.size) {o0 : Nat} {c_o0_root : Int32}  (g_o0 : n0 ≤ o0) (E_o0 : Exa Z h0 o0 "com/example/gridfare/gridfare/engine/LoweringTree") (F_o0_root : Fld Z h0 o0 "com/example/gridfare/gridfare/engine/LoweringTree" "root" "I" (.int c_o0_root)) (F_o0_following : Fld Z h0 o0 "com/example/gridfare/gridfare/engine/LoweringTree" "following" "[I" .null) (F_o0_preceding : Fld Z h0 o0 "com/example/gridfare/gridfare/engine/LoweringTree" "preceding" "[I" .null) (F_o0_depth : Fld Z h0 o0 "com/example/gridfare/gridfare/engine/LoweringTree" "depth" "[I" .null) (x1 : Int32)  (rr : Int32 × (List Int32) × (List Int32) × (List Int32)) (hf : f1_0 x1 = some rr) :
    own_Met l Z (⟨"com/example/gridfare/gridfare/engine/LoweringTree", "<init>", "(I)V"⟩ : MethodName) prog_39_method_1_code 2 none [] rmR1 #[(.ref o0), (.int x1)] h0 (fun v h L => Fr n0 L ∧ Keep h0 h [o0] ∧ E1 Z h0 o0 rr v h) := by
  refine own_body pn1 ?_
  intro p e s m below meth c s₁ C X e0
  exact own_cast (ef1 m o0 x1) (b1_0 hw C Z0 rr (fun v h L a b c => ⟨a, b, c⟩) X e0 (Fr.nil n0) (Keep.refl h0 [o0]) g_o0 E_o0 F_o0_root F_o0_following F_o0_preceding F_o0_depth x1 hf)
theorem d5_0 : decode prog_39_method_3_code 0 = .ok (.aload_n 0, 1) := by decide +kernel
theorem d5_1 : decode prog_39_method_3_code 1 = .ok (.getfield 20, 3) := by decide +kernel
theorem d5_4 : decode prog_39_method_3_code 4 = .ok (.iload_n 1, 1) := by decide +kernel
theorem d5_5 : decode prog_39_method_3_code 5 = .ok (.iaload, 1) := by decide +kernel
theorem d5_6 : decode prog_39_method_3_code 6 = .ok (.iconst (-1), 1) := by decide +kernel
theorem d5_7 : decode prog_39_method_3_code 7 = .ok (.if_icmp .eq 7, 3) := by decide +kernel
theorem d5_10 : decode prog_39_method_3_code 10 = .ok (.iconst 1, 1) := by decide +kernel
theorem d5_11 : decode prog_39_method_3_code 11 = .ok (.goto 4, 3) := by decide +kernel
theorem d5_14 : decode prog_39_method_3_code 14 = .ok (.iconst 0, 1) := by decide +kernel
theorem d5_15 : decode prog_39_method_3_code 15 = .ok (.ireturn, 1) := by decide +kernel
def rmR5 : Room := { frames := 0, cells := 0, slots := 0, locals := 0 }
def E5 (Z : State) (h0 : Heap) (o0 : Nat) (pf : Nat) (pp : Nat) (pd : Nat) (n : Int32) (fl : List Int32) (pl : List Int32) (dl : List Int32) (rr : Int32) (v : Option Value) (h : Heap) : Prop := v = some (.int rr)
def f5_0 (dl : List Int32) (x1 : Int32) : Option (Int32) := ((own_get dl x1).bind fun w2 => (if w2 = (-1 : Int32) then (some (0 : Int32)) else (some (1 : Int32))))
set_option maxRecDepth 65536 in
set_option maxHeartbeats 40000000 in
theorem b5_0 {p : Program} {l : Launch} {e : Env} {s : State} {m : MethodId} {args : Array Value} {below : List Frame} {meth : Method} {c : Code} {Z : State} {a0 : Array Value} {h0 : Heap} {n0 : Nat} {P : Option Value → Heap → List Loc → Prop} (hw : ∀ d ∈ tables_1, d.before a0 Z = true) (C : own_Ctx p s m meth c Z (⟨"com/example/gridfare/gridfare/engine/LoweringTree", "holds", "(I)Z"⟩ : MethodName) prog_39_method_3_code 2 (some .boolean)) (Z0 : n0 ≤ h0.size) {o0 : Nat} {pf : Nat} {pp : Nat} {pd : Nat} {n : Int32} {fl : List Int32} {pl : List Int32} {dl : List Int32} (rr : Int32) (hP : ∀ v h L, Fr n0 L → Keep h0 h [] → E5 Z h0 o0 pf pp pd n fl pl dl rr v h → P v h L)
    {T : State} {locs : List Loc} {h : Heap} (X : Stand p l e rmR5 s m args below meth c T locs 0 0) (e0 : T.heap = h) (N : Fr n0 locs) (K : Keep h0 h []) (o_o0_pf : o0 < pf) (o_pf_pp : pf < pp) (o_pp_pd : pp < pd) (g_o0 : n0 ≤ o0) (E_o0 : Exa Z h o0 "com/example/gridfare/gridfare/engine/LoweringTree") (F_o0_root : Fld Z h o0 "com/example/gridfare/gridfare/engine/LoweringTree" "root" "I" (.int n)) (F_o0_following : Fld Z h o0 "com/example/gridfare/gridfare/engine/LoweringTree" "following" "[I" (.ref pf)) (F_o0_preceding : Fld Z h o0 "com/example/gridfare/gridfare/engine/LoweringTree" "preceding" "[I" (.ref pp)) (F_o0_depth : Fld Z h o0 "com/example/gridfare/gridfare/engine/LoweringTree" "depth" "[I" (.ref pd)) (V_pf : own_AI Z h pf .int fl) (V_pp : own_AI Z h pp .int pl) (V_pd : own_AI Z h pd .int dl) (x1 : Int32) (hv : f5_0 dl x1 = some rr) :
    own_WP p e below (own_Q s P rmR5.cells rmR5.slots) T (mkF m 0 #[.val (.ref o0), .val (.int x1)] []) := by
  obtain ⟨hx, hZ, hby, hml, hown, hnm, hret, hlk⟩ := id C
  replace hown : s.vm.findClass "com/example/gridfare/gridfare/engine/LoweringTree" = some m.cls := hown
  unfold f5_0 at hv
  show own_WP p e below _ T (mkF m 0 #[.val (.ref o0), .val (.int x1)] [])
  refine own_go (fun _ => XS.aloadN X.here hx rfl (hb hby d5_0) rfl rfl) ?_
  show own_WP p e below _ T (mkF m 1 #[.val (.ref o0), .val (.int x1)] [(.ref o0)])
  obtain ⟨T1, X1, e1, st1⟩ := getF X hx hZ hown (host := "") (Or.inl (hw _ (List.mem_of_getElem? (i := 16) rfl))) Via.refl e0 F_o0_depth (g := (mkF m 1 #[.val (.ref o0), .val (.int x1)] [(.ref o0)])) rfl rfl (hb hby d5_1)
  refine own_go st1 ?_
  show own_WP p e below _ T1 (mkF m 4 #[.val (.ref o0), .val (.int x1)] [(.ref pd)])
  refine own_go (fun _ => XS.iloadN X1.here hx rfl (hb hby d5_4) rfl) ?_
  show own_WP p e below _ T1 (mkF m 5 #[.val (.ref o0), .val (.int x1)] [(.int x1), (.ref pd)])
  obtain ⟨w2, hg2, hv⟩ := own_bind hv
  refine own_go (own_iaload X1 C e1 V_pd hg2 (hb hby d5_5)) ?_
  show own_WP p e below _ T1 (mkF m 6 #[.val (.ref o0), .val (.int x1)] [(.int w2)])
  refine own_go (fun _ => XS.iconst X1.here hx rfl (hb hby d5_6)) ?_
  show own_WP p e below _ T1 (mkF m 7 #[.val (.ref o0), .val (.int x1)] [(.int (-1 : Int32)), (.int w2)])
  by_cases h7 : w2 = (-1 : Int32)
  · replace hv := (if_pos h7).symm.trans hv
    refine own_go (fun _ => XS.icmpYes X1.here hx rfl (pc0 := 7) (pc' := 14) rfl (hb hby d5_7) rfl (XT.ii_eq_t h7) (by decide) (by decide)) ?_
    show own_WP p e below _ T1 (mkF m 14 #[.val (.ref o0), .val (.int x1)] [])
    refine own_go (fun _ => XS.iconst X1.here hx rfl (hb hby d5_14)) ?_
    show own_WP p e below _ T1 (mkF m 15 #[.val (.ref o0), .val (.int x1)] [(.int (0 : Int32))])
    obtain rfl := Option.some.inj hv
    exact own_retN X1 C (by simp) (hb hby d5_15) (by rw [e1]; exact hP _ _ _ N K rfl) (by decide) (by decide)
  · replace hv := (if_neg h7).symm.trans hv
    refine own_go (fun _ => XS.icmpNo X1.here hx rfl (hb hby d5_7) rfl (XT.ii_eq_f h7)) ?_
    show own_WP p e below _ T1 (mkF m 10 #[.val (.ref o0), .val (.int x1)] [])
    refine own_go (fun _ => XS.iconst X1.here hx rfl (hb hby d5_10)) ?_
    show own_WP p e below _ T1 (mkF m 11 #[.val (.ref o0), .val (.int x1)] [(.int (1 : Int32))])
    refine own_go (fun _ => XS.goto X1.here hx rfl (pc0 := 11) (pc' := 15) rfl (hb hby d5_11) (by decide) (by decide)) ?_
    show own_WP p e below _ T1 (mkF m 15 #[.val (.ref o0), .val (.int x1)] [(.int (1 : Int32))])
    obtain rfl := Option.some.inj hv
    exact own_retN X1 C (by simp) (hb hby d5_15) (by rw [e1]; exact hP _ _ _ N K rfl) (by decide) (by decide)
theorem ef5 (m : MethodId) (o0 : Nat) (x1 : Int32) : entryFrame m #[(.ref o0), (.int x1)] 2 = (mkF m 0 #[.val (.ref o0), .val (.int x1)] []) := by first | (simp [entryFrame, mkF, argsToLocals, Value.category]; done) | rfl
theorem pd5 : parseMethodDescriptor "(I)Z" = some ⟨[.int], some .boolean⟩ := by decide +kernel
theorem pn5 : plainFor (⟨"com/example/gridfare/gridfare/engine/LoweringTree", "holds", "(I)Z"⟩ : MethodName) = true := plainFor_of_name (by first | (simp [plainName, overriddenIn]; done) | decide +kernel)
theorem rm5 (l : Launch) (Z : State) (a0 : Array Value) (hw : ∀ d ∈ tables_1, d.before a0 Z = true) (n0 : Nat) (h0 : Heap) (Z0 : n0 ≤ h0.size) {o0 : Nat} {pf : Nat} {pp : Nat} {pd : Nat} {n : Int32} {fl : List Int32} {pl : List Int32} {dl : List Int32} (o_o0_pf : o0 < pf) (o_pf_pp : pf < pp) (o_pp_pd : pp < pd) (g_o0 : n0 ≤ o0) (E_o0 : Exa Z h0 o0 "com/example/gridfare/gridfare/engine/LoweringTree") (F_o0_root : Fld Z h0 o0 "com/example/gridfare/gridfare/engine/LoweringTree" "root" "I" (.int n)) (F_o0_following : Fld Z h0 o0 "com/example/gridfare/gridfare/engine/LoweringTree" "following" "[I" (.ref pf)) (F_o0_preceding : Fld Z h0 o0 "com/example/gridfare/gridfare/engine/LoweringTree" "preceding" "[I" (.ref pp)) (F_o0_depth : Fld Z h0 o0 "com/example/gridfare/gridfare/engine/LoweringTree" "depth" "[I" (.ref pd)) (V_pf : own_AI Z h0 pf .int fl) (V_pp : own_AI Z h0 pp .int pl) (V_pd : own_AI Z h0 pd .int dl) (x1 : Int32)  (rr : Int32) (hf : f5_0 dl x1 = some rr) :
    own_Met l Z (⟨"com/example/gridfare/gridfare/engine/LoweringTree", "holds", "(I)Z"⟩ : MethodName) prog_39_method_3_code 2 (some .boolean) [] rmR5 #[(.ref o0), (.int x1)] h0 (fun v h L => Fr n0 L ∧ Keep h0 h [] ∧ E5 Z h0 o0 pf pp pd n fl pl dl rr v h) := by
  refine own_body pn5 ?_
  intro p e s m below meth c s₁ C X e0
  exact own_cast (ef5 m o0 x1) (b5_0 hw C Z0 rr (fun v h L a b c => ⟨a, b, c⟩) X e0 (Fr.nil n0) (Keep.refl h0 []) o_o0_pf o_pf_pp o_pp_pd g_o0 E_o0 F_o0_root F_o0_following F_o0_preceding F_o0_depth V_pf V_pp V_pd x1 hf)
theorem d4_0 : decode prog_39_method_4_code 0 = .ok (.iload_n 2, 1) := by decide +kernel
theorem d4_1 : decode prog_39_method_4_code 1 = .ok (.iload_n 1, 1) := by decide +kernel
theorem d4_2 : decode prog_39_method_4_code 2 = .ok (.if_icmp .ne 5, 3) := by decide +kernel
theorem d4_5 : decode prog_39_method_4_code 5 = .ok (.iconst 0, 1) := by decide +kernel
theorem d4_6 : decode prog_39_method_4_code 6 = .ok (.ireturn, 1) := by decide +kernel
theorem d4_7 : decode prog_39_method_4_code 7 = .ok (.aload_n 0, 1) := by decide +kernel
theorem d4_8 : decode prog_39_method_4_code 8 = .ok (.iload_n 1, 1) := by decide +kernel
theorem d4_9 : decode prog_39_method_4_code 9 = .ok (.invokevirtual 26, 3) := by decide +kernel
theorem d4_12 : decode prog_39_method_4_code 12 = .ok (.ifCond .eq 73, 3) := by decide +kernel
theorem d4_15 : decode prog_39_method_4_code 15 = .ok (.aload_n 0, 1) := by decide +kernel
theorem d4_16 : decode prog_39_method_4_code 16 = .ok (.getfield 13, 3) := by decide +kernel
theorem d4_19 : decode prog_39_method_4_code 19 = .ok (.iload_n 1, 1) := by decide +kernel
theorem d4_20 : decode prog_39_method_4_code 20 = .ok (.iaload, 1) := by decide +kernel
theorem d4_21 : decode prog_39_method_4_code 21 = .ok (.istore_n 3, 1) := by decide +kernel
theorem d4_22 : decode prog_39_method_4_code 22 = .ok (.aload_n 0, 1) := by decide +kernel
theorem d4_23 : decode prog_39_method_4_code 23 = .ok (.getfield 20, 3) := by decide +kernel
theorem d4_26 : decode prog_39_method_4_code 26 = .ok (.iload_n 3, 1) := by decide +kernel
theorem d4_27 : decode prog_39_method_4_code 27 = .ok (.iaload, 1) := by decide +kernel
theorem d4_28 : decode prog_39_method_4_code 28 = .ok (.aload_n 0, 1) := by decide +kernel
theorem d4_29 : decode prog_39_method_4_code 29 = .ok (.getfield 20, 3) := by decide +kernel
theorem d4_32 : decode prog_39_method_4_code 32 = .ok (.iload_n 1, 1) := by decide +kernel
theorem d4_33 : decode prog_39_method_4_code 33 = .ok (.iaload, 1) := by decide +kernel
theorem d4_34 : decode prog_39_method_4_code 34 = .ok (.if_icmp .le 27, 3) := by decide +kernel
theorem d4_37 : decode prog_39_method_4_code 37 = .ok (.iload_n 3, 1) := by decide +kernel
theorem d4_38 : decode prog_39_method_4_code 38 = .ok (.iload_n 2, 1) := by decide +kernel
theorem d4_39 : decode prog_39_method_4_code 39 = .ok (.if_icmp .ne 5, 3) := by decide +kernel
theorem d4_42 : decode prog_39_method_4_code 42 = .ok (.iconst 0, 1) := by decide +kernel
theorem d4_43 : decode prog_39_method_4_code 43 = .ok (.ireturn, 1) := by decide +kernel
theorem d4_44 : decode prog_39_method_4_code 44 = .ok (.aload_n 0, 1) := by decide +kernel
theorem d4_45 : decode prog_39_method_4_code 45 = .ok (.getfield 20, 3) := by decide +kernel
theorem d4_48 : decode prog_39_method_4_code 48 = .ok (.iload_n 3, 1) := by decide +kernel
theorem d4_49 : decode prog_39_method_4_code 49 = .ok (.iconst (-1), 1) := by decide +kernel
theorem d4_50 : decode prog_39_method_4_code 50 = .ok (.iastore, 1) := by decide +kernel
theorem d4_51 : decode prog_39_method_4_code 51 = .ok (.aload_n 0, 1) := by decide +kernel
theorem d4_52 : decode prog_39_method_4_code 52 = .ok (.getfield 13, 3) := by decide +kernel
theorem d4_55 : decode prog_39_method_4_code 55 = .ok (.iload_n 3, 1) := by decide +kernel
theorem d4_56 : decode prog_39_method_4_code 56 = .ok (.iaload, 1) := by decide +kernel
theorem d4_57 : decode prog_39_method_4_code 57 = .ok (.istore_n 3, 1) := by decide +kernel
theorem d4_58 : decode prog_39_method_4_code 58 = .ok (.goto (-36), 3) := by decide +kernel
theorem d4_61 : decode prog_39_method_4_code 61 = .ok (.aload_n 0, 1) := by decide +kernel
theorem d4_62 : decode prog_39_method_4_code 62 = .ok (.getfield 13, 3) := by decide +kernel
theorem d4_65 : decode prog_39_method_4_code 65 = .ok (.aload_n 0, 1) := by decide +kernel
theorem d4_66 : decode prog_39_method_4_code 66 = .ok (.getfield 17, 3) := by decide +kernel
theorem d4_69 : decode prog_39_method_4_code 69 = .ok (.iload_n 1, 1) := by decide +kernel
theorem d4_70 : decode prog_39_method_4_code 70 = .ok (.iaload, 1) := by decide +kernel
theorem d4_71 : decode prog_39_method_4_code 71 = .ok (.iload_n 3, 1) := by decide +kernel
theorem d4_72 : decode prog_39_method_4_code 72 = .ok (.iastore, 1) := by decide +kernel
theorem d4_73 : decode prog_39_method_4_code 73 = .ok (.aload_n 0, 1) := by decide +kernel
theorem d4_74 : decode prog_39_method_4_code 74 = .ok (.getfield 17, 3) := by decide +kernel
theorem d4_77 : decode prog_39_method_4_code 77 = .ok (.iload_n 3, 1) := by decide +kernel
theorem d4_78 : decode prog_39_method_4_code 78 = .ok (.aload_n 0, 1) := by decide +kernel
theorem d4_79 : decode prog_39_method_4_code 79 = .ok (.getfield 17, 3) := by decide +kernel
theorem d4_82 : decode prog_39_method_4_code 82 = .ok (.iload_n 1, 1) := by decide +kernel
theorem d4_83 : decode prog_39_method_4_code 83 = .ok (.iaload, 1) := by decide +kernel
theorem d4_84 : decode prog_39_method_4_code 84 = .ok (.iastore, 1) := by decide +kernel
theorem d4_85 : decode prog_39_method_4_code 85 = .ok (.aload_n 0, 1) := by decide +kernel
theorem d4_86 : decode prog_39_method_4_code 86 = .ok (.getfield 13, 3) := by decide +kernel
theorem d4_89 : decode prog_39_method_4_code 89 = .ok (.iload_n 1, 1) := by decide +kernel
theorem d4_90 : decode prog_39_method_4_code 90 = .ok (.aload_n 0, 1) := by decide +kernel
theorem d4_91 : decode prog_39_method_4_code 91 = .ok (.getfield 13, 3) := by decide +kernel
theorem d4_94 : decode prog_39_method_4_code 94 = .ok (.iload_n 2, 1) := by decide +kernel
theorem d4_95 : decode prog_39_method_4_code 95 = .ok (.iaload, 1) := by decide +kernel
theorem d4_96 : decode prog_39_method_4_code 96 = .ok (.iastore, 1) := by decide +kernel
theorem d4_97 : decode prog_39_method_4_code 97 = .ok (.aload_n 0, 1) := by decide +kernel
theorem d4_98 : decode prog_39_method_4_code 98 = .ok (.getfield 17, 3) := by decide +kernel
theorem d4_101 : decode prog_39_method_4_code 101 = .ok (.aload_n 0, 1) := by decide +kernel
theorem d4_102 : decode prog_39_method_4_code 102 = .ok (.getfield 13, 3) := by decide +kernel
theorem d4_105 : decode prog_39_method_4_code 105 = .ok (.iload_n 2, 1) := by decide +kernel
theorem d4_106 : decode prog_39_method_4_code 106 = .ok (.iaload, 1) := by decide +kernel
theorem d4_107 : decode prog_39_method_4_code 107 = .ok (.iload_n 1, 1) := by decide +kernel
theorem d4_108 : decode prog_39_method_4_code 108 = .ok (.iastore, 1) := by decide +kernel
theorem d4_109 : decode prog_39_method_4_code 109 = .ok (.aload_n 0, 1) := by decide +kernel
theorem d4_110 : decode prog_39_method_4_code 110 = .ok (.getfield 13, 3) := by decide +kernel
theorem d4_113 : decode prog_39_method_4_code 113 = .ok (.iload_n 2, 1) := by decide +kernel
theorem d4_114 : decode prog_39_method_4_code 114 = .ok (.iload_n 1, 1) := by decide +kernel
theorem d4_115 : decode prog_39_method_4_code 115 = .ok (.iastore, 1) := by decide +kernel
theorem d4_116 : decode prog_39_method_4_code 116 = .ok (.aload_n 0, 1) := by decide +kernel
theorem d4_117 : decode prog_39_method_4_code 117 = .ok (.getfield 17, 3) := by decide +kernel
theorem d4_120 : decode prog_39_method_4_code 120 = .ok (.iload_n 1, 1) := by decide +kernel
theorem d4_121 : decode prog_39_method_4_code 121 = .ok (.iload_n 2, 1) := by decide +kernel
theorem d4_122 : decode prog_39_method_4_code 122 = .ok (.iastore, 1) := by decide +kernel
theorem d4_123 : decode prog_39_method_4_code 123 = .ok (.aload_n 0, 1) := by decide +kernel
theorem d4_124 : decode prog_39_method_4_code 124 = .ok (.getfield 20, 3) := by decide +kernel
theorem d4_127 : decode prog_39_method_4_code 127 = .ok (.iload_n 1, 1) := by decide +kernel
theorem d4_128 : decode prog_39_method_4_code 128 = .ok (.aload_n 0, 1) := by decide +kernel
theorem d4_129 : decode prog_39_method_4_code 129 = .ok (.getfield 20, 3) := by decide +kernel
theorem d4_132 : decode prog_39_method_4_code 132 = .ok (.iload_n 2, 1) := by decide +kernel
theorem d4_133 : decode prog_39_method_4_code 133 = .ok (.iaload, 1) := by decide +kernel
theorem d4_134 : decode prog_39_method_4_code 134 = .ok (.iconst 1, 1) := by decide +kernel
theorem d4_135 : decode prog_39_method_4_code 135 = .ok (.iadd, 1) := by decide +kernel
theorem d4_136 : decode prog_39_method_4_code 136 = .ok (.iastore, 1) := by decide +kernel
theorem d4_137 : decode prog_39_method_4_code 137 = .ok (.iconst 1, 1) := by decide +kernel
theorem d4_138 : decode prog_39_method_4_code 138 = .ok (.ireturn, 1) := by decide +kernel
def rmR4 : Room := { frames := 1, cells := 0, slots := 0, locals := 13 }
def E4 (Z : State) (h0 : Heap) (o0 : Nat) (pf : Nat) (pp : Nat) (pd : Nat) (n : Int32) (rr : Int32 × (List Int32) × (List Int32) × (List Int32)) (v : Option Value) (h : Heap) : Prop := v = some (.int (rr.1)) ∧ own_AI Z h pf .int (rr.2.1) ∧ own_AI Z h pp .int (rr.2.2.1) ∧ own_AI Z h pd .int (rr.2.2.2)
def f4_85 (v_pf : List Int32) (v_pp : List Int32) (v_pd : List Int32) (x1 : Int32) (x2 : Int32) : Option (Int32 × (List Int32) × (List Int32) × (List Int32)) := ((own_get v_pf x2).bind fun w4 => ((own_set v_pf x1 w4).bind fun u5 => ((own_get u5 x2).bind fun w8 => ((own_set v_pp w8 x1).bind fun u9 => ((own_set u5 x2 x1).bind fun u11 => ((own_set u9 x1 x2).bind fun u13 => ((own_get v_pd x2).bind fun w16 => ((own_set v_pd x1 (w16 + (1 : Int32))).bind fun u17 => (some ((1 : Int32), u11, u13, u17))))))))))
set_option maxRecDepth 65536 in
set_option maxHeartbeats 40000000 in
theorem b4_85 {p : Program} {l : Launch} {e : Env} {s : State} {m : MethodId} {args : Array Value} {below : List Frame} {meth : Method} {c : Code} {Z : State} {a0 : Array Value} {h0 : Heap} {n0 : Nat} {P : Option Value → Heap → List Loc → Prop} (hw : ∀ d ∈ tables_1, d.before a0 Z = true) (C : own_Ctx p s m meth c Z (⟨"com/example/gridfare/gridfare/engine/LoweringTree", "hang", "(II)Z"⟩ : MethodName) prog_39_method_4_code 4 (some .boolean)) (Z0 : n0 ≤ h0.size) {o0 : Nat} {pf : Nat} {pp : Nat} {pd : Nat} {n : Int32} (rr : Int32 × (List Int32) × (List Int32) × (List Int32)) (hP : ∀ v h L, Fr n0 L → Keep h0 h [pf, pp, pd] → E4 Z h0 o0 pf pp pd n rr v h → P v h L)
    {T : State} {locs : List Loc} {h : Heap} {v_pf : List Int32} {v_pp : List Int32} {v_pd : List Int32} (X : Stand p l e rmR4 s m args below meth c T locs 0 0) (e0 : T.heap = h) (N : Fr n0 locs) (K : Keep h0 h [pf, pp, pd]) (o_o0_pf : o0 < pf) (o_pf_pp : pf < pp) (o_pp_pd : pp < pd) (g_o0 : n0 ≤ o0) (E_o0 : Exa Z h o0 "com/example/gridfare/gridfare/engine/LoweringTree") (F_o0_root : Fld Z h o0 "com/example/gridfare/gridfare/engine/LoweringTree" "root" "I" (.int n)) (F_o0_following : Fld Z h o0 "com/example/gridfare/gridfare/engine/LoweringTree" "following" "[I" (.ref pf)) (F_o0_preceding : Fld Z h o0 "com/example/gridfare/gridfare/engine/LoweringTree" "preceding" "[I" (.ref pp)) (F_o0_depth : Fld Z h o0 "com/example/gridfare/gridfare/engine/LoweringTree" "depth" "[I" (.ref pd)) (V_pf : own_AI Z h pf .int v_pf) (V_pp : own_AI Z h pp .int v_pp) (V_pd : own_AI Z h pd .int v_pd) (x1 : Int32) (x2 : Int32) (s3 : Slot) (hs3 : One s3) (hv : f4_85 v_pf v_pp v_pd x1 x2 = some rr) :
    own_WP p e below (own_Q s P rmR4.cells rmR4.slots) T (mkF m 85 #[.val (.ref o0), .val (.int x1), .val (.int x2), s3] []) := by
  obtain ⟨hx, hZ, hby, hml, hown, hnm, hret, hlk⟩ := id C
  replace hown : s.vm.findClass "com/example/gridfare/gridfare/engine/LoweringTree" = some m.cls := hown
  unfold f4_85 at hv
  show own_WP p e below _ T (mkF m 85 #[.val (.ref o0), .val (.int x1), .val (.int x2), s3] [])
  refine own_go (fun _ => XS.aloadN X.here hx rfl (hb hby d4_85) rfl rfl) ?_
  show own_WP p e below _ T (mkF m 86 #[.val (.ref o0), .val (.int x1), .val (.int x2), s3] [(.ref o0)])
  obtain ⟨T2, X2, e2, st2⟩ := getF X hx hZ hown (host := "") (Or.inl (hw _ (List.mem_of_getElem? (i := 12) rfl))) Via.refl e0 F_o0_following (g := (mkF m 86 #[.val (.ref o0), .val (.int x1), .val (.int x2), s3] [(.ref o0)])) rfl rfl (hb hby d4_86)
  refine own_go st2 ?_
  show own_WP p e below _ T2 (mkF m 89 #[.val (.ref o0), .val (.int x1), .val (.int x2), s3] [(.ref pf)])
  refine own_go (fun _ => XS.iloadN X2.here hx rfl (hb hby d4_89) rfl) ?_
  show own_WP p e below _ T2 (mkF m 90 #[.val (.ref o0), .val (.int x1), .val (.int x2), s3] [(.int x1), (.ref pf)])
  refine own_go (fun _ => XS.aloadN X2.here hx rfl (hb hby d4_90) rfl rfl) ?_
  show own_WP p e below _ T2 (mkF m 91 #[.val (.ref o0), .val (.int x1), .val (.int x2), s3] [(.ref o0), (.int x1), (.ref pf)])
  obtain ⟨T3, X3, e3, st3⟩ := getF X2 hx hZ hown (host := "") (Or.inl (hw _ (List.mem_of_getElem? (i := 12) rfl))) Via.refl e2 F_o0_following (g := (mkF m 91 #[.val (.ref o0), .val (.int x1), .val (.int x2), s3] [(.ref o0), (.int x1), (.ref pf)])) rfl rfl (hb hby d4_91)
  refine own_go st3 ?_
  show own_WP p e below _ T3 (mkF m 94 #[.val (.ref o0), .val (.int x1), .val (.int x2), s3] [(.ref pf), (.int x1), (.ref pf)])
  refine own_go (fun _ => XS.iloadN X3.here hx rfl (hb hby d4_94) rfl) ?_
  show own_WP p e below _ T3 (mkF m 95 #[.val (.ref o0), .val (.int x1), .val (.int x2), s3] [(.int x2), (.ref pf), (.int x1), (.ref pf)])
  obtain ⟨w4, hg4, hv⟩ := own_bind hv
  refine own_go (own_iaload X3 C e3 V_pf hg4 (hb hby d4_95)) ?_
  show own_WP p e below _ T3 (mkF m 96 #[.val (.ref o0), .val (.int x1), .val (.int x2), s3] [(.int w4), (.int x1), (.ref pf)])
  obtain ⟨u5, hg5, hv⟩ := own_bind hv
  obtain ⟨T5, h5, X5, e5, W5, V'5, st5⟩ := own_iastore X3 C e3 V_pf (j := x1) (x := w4) hg5 (hb hby d4_96)
  refine own_go st5 ?_
  replace E_o0 := E_o0.wr W5
  replace F_o0_root := F_o0_root.other W5 (Or.inl (own_ne (by omega)))
  replace F_o0_following := F_o0_following.other W5 (Or.inl (own_ne (by omega)))
  replace F_o0_preceding := F_o0_preceding.other W5 (Or.inl (own_ne (by omega)))
  replace F_o0_depth := F_o0_depth.other W5 (Or.inl (own_ne (by omega)))
  replace V_pp := V_pp.other W5 (own_ne (by omega))
  replace V_pd := V_pd.other W5 (own_ne (by omega))
  replace V_pf := V'5
  clear V'5
  replace K := K.wr W5 (Or.inl (List.mem_of_getElem? (i := 0) rfl))
  replace N := Fr.snoc X5 N (by omega)
  show own_WP p e below _ T5 (mkF m 97 #[.val (.ref o0), .val (.int x1), .val (.int x2), s3] [])
  refine own_go (fun _ => XS.aloadN X5.here hx rfl (hb hby d4_97) rfl rfl) ?_
  show own_WP p e below _ T5 (mkF m 98 #[.val (.ref o0), .val (.int x1), .val (.int x2), s3] [(.ref o0)])
  obtain ⟨T6, X6, e6, st6⟩ := getF X5 hx hZ hown (host := "") (Or.inl (hw _ (List.mem_of_getElem? (i := 14) rfl))) Via.refl e5 F_o0_preceding (g := (mkF m 98 #[.val (.ref o0), .val (.int x1), .val (.int x2), s3] [(.ref o0)])) rfl rfl (hb hby d4_98)
  refine own_go st6 ?_
  show own_WP p e below _ T6 (mkF m 101 #[.val (.ref o0), .val (.int x1), .val (.int x2), s3] [(.ref pp)])
  refine own_go (fun _ => XS.aloadN X6.here hx rfl (hb hby d4_101) rfl rfl) ?_
  show own_WP p e below _ T6 (mkF m 102 #[.val (.ref o0), .val (.int x1), .val (.int x2), s3] [(.ref o0), (.ref pp)])
  obtain ⟨T7, X7, e7, st7⟩ := getF X6 hx hZ hown (host := "") (Or.inl (hw _ (List.mem_of_getElem? (i := 12) rfl))) Via.refl e6 F_o0_following (g := (mkF m 102 #[.val (.ref o0), .val (.int x1), .val (.int x2), s3] [(.ref o0), (.ref pp)])) rfl rfl (hb hby d4_102)
  refine own_go st7 ?_
  show own_WP p e below _ T7 (mkF m 105 #[.val (.ref o0), .val (.int x1), .val (.int x2), s3] [(.ref pf), (.ref pp)])
  refine own_go (fun _ => XS.iloadN X7.here hx rfl (hb hby d4_105) rfl) ?_
  show own_WP p e below _ T7 (mkF m 106 #[.val (.ref o0), .val (.int x1), .val (.int x2), s3] [(.int x2), (.ref pf), (.ref pp)])
  obtain ⟨w8, hg8, hv⟩ := own_bind hv
  refine own_go (own_iaload X7 C e7 V_pf hg8 (hb hby d4_106)) ?_
  show own_WP p e below _ T7 (mkF m 107 #[.val (.ref o0), .val (.int x1), .val (.int x2), s3] [(.int w8), (.ref pp)])
  refine own_go (fun _ => XS.iloadN X7.here hx rfl (hb hby d4_107) rfl) ?_
  show own_WP p e below _ T7 (mkF m 108 #[.val (.ref o0), .val (.int x1), .val (.int x2), s3] [(.int x1), (.int w8), (.ref pp)])
  obtain ⟨u9, hg9, hv⟩ := own_bind hv
  obtain ⟨T9, h9, X9, e9, W9, V'9, st9⟩ := own_iastore X7 C e7 V_pp (j := w8) (x := x1) hg9 (hb hby d4_108)
  refine own_go st9 ?_
  replace E_o0 := E_o0.wr W9
  replace F_o0_root := F_o0_root.other W9 (Or.inl (own_ne (by omega)))
  replace F_o0_following := F_o0_following.other W9 (Or.inl (own_ne (by omega)))
  replace F_o0_preceding := F_o0_preceding.other W9 (Or.inl (own_ne (by omega)))
  replace F_o0_depth := F_o0_depth.other W9 (Or.inl (own_ne (by omega)))
  replace V_pf := V_pf.other W9 (own_ne (by omega))
  replace V_pd := V_pd.other W9 (own_ne (by omega))
  replace V_pp := V'9
  clear V'9
  replace K := K.wr W9 (Or.inl (List.mem_of_getElem? (i := 1) rfl))
  replace N := Fr.snoc X9 N (by omega)
  show own_WP p e below _ T9 (mkF m 109 #[.val (.ref o0), .val (.int x1), .val (.int x2), s3] [])
  refine own_go (fun _ => XS.aloadN X9.here hx rfl (hb hby d4_109) rfl rfl) ?_
  show own_WP p e below _ T9 (mkF m 110 #[.val (.ref o0), .val (.int x1), .val (.int x2), s3] [(.ref o0)])
  obtain ⟨T10, X10, e10, st10⟩ := getF X9 hx hZ hown (host := "") (Or.inl (hw _ (List.mem_of_getElem? (i := 12) rfl))) Via.refl e9 F_o0_following (g := (mkF m 110 #[.val (.ref o0), .val (.int x1), .val (.int x2), s3] [(.ref o0)])) rfl rfl (hb hby d4_110)
  refine own_go st10 ?_
  show own_WP p e below _ T10 (mkF m 113 #[.val (.ref o0), .val (.int x1), .val (.int x2), s3] [(.ref pf)])
  refine own_go (fun _ => XS.iloadN X10.here hx rfl (hb hby d4_113) rfl) ?_
  show own_WP p e below _ T10 (mkF m 114 #[.val (.ref o0), .val (.int x1), .val (.int x2), s3] [(.int x2), (.ref pf)])
  refine own_go (fun _ => XS.iloadN X10.here hx rfl (hb hby d4_114) rfl) ?_
  show own_WP p e below _ T10 (mkF m 115 #[.val (.ref o0), .val (.int x1), .val (.int x2), s3] [(.int x1), (.int x2), (.ref pf)])
  obtain ⟨u11, hg11, hv⟩ := own_bind hv
  obtain ⟨T11, h11, X11, e11, W11, V'11, st11⟩ := own_iastore X10 C e10 V_pf (j := x2) (x := x1) hg11 (hb hby d4_115)
  refine own_go st11 ?_
  replace E_o0 := E_o0.wr W11
  replace F_o0_root := F_o0_root.other W11 (Or.inl (own_ne (by omega)))
  replace F_o0_following := F_o0_following.other W11 (Or.inl (own_ne (by omega)))
  replace F_o0_preceding := F_o0_preceding.other W11 (Or.inl (own_ne (by omega)))
  replace F_o0_depth := F_o0_depth.other W11 (Or.inl (own_ne (by omega)))
  replace V_pp := V_pp.other W11 (own_ne (by omega))
  replace V_pd := V_pd.other W11 (own_ne (by omega))
  replace V_pf := V'11
  clear V'11
  replace K := K.wr W11 (Or.inl (List.mem_of_getElem? (i := 0) rfl))
  replace N := Fr.snoc X11 N (by omega)
  show own_WP p e below _ T11 (mkF m 116 #[.val (.ref o0), .val (.int x1), .val (.int x2), s3] [])
  refine own_go (fun _ => XS.aloadN X11.here hx rfl (hb hby d4_116) rfl rfl) ?_
  show own_WP p e below _ T11 (mkF m 117 #[.val (.ref o0), .val (.int x1), .val (.int x2), s3] [(.ref o0)])
  obtain ⟨T12, X12, e12, st12⟩ := getF X11 hx hZ hown (host := "") (Or.inl (hw _ (List.mem_of_getElem? (i := 14) rfl))) Via.refl e11 F_o0_preceding (g := (mkF m 117 #[.val (.ref o0), .val (.int x1), .val (.int x2), s3] [(.ref o0)])) rfl rfl (hb hby d4_117)
  refine own_go st12 ?_
  show own_WP p e below _ T12 (mkF m 120 #[.val (.ref o0), .val (.int x1), .val (.int x2), s3] [(.ref pp)])
  refine own_go (fun _ => XS.iloadN X12.here hx rfl (hb hby d4_120) rfl) ?_
  show own_WP p e below _ T12 (mkF m 121 #[.val (.ref o0), .val (.int x1), .val (.int x2), s3] [(.int x1), (.ref pp)])
  refine own_go (fun _ => XS.iloadN X12.here hx rfl (hb hby d4_121) rfl) ?_
  show own_WP p e below _ T12 (mkF m 122 #[.val (.ref o0), .val (.int x1), .val (.int x2), s3] [(.int x2), (.int x1), (.ref pp)])
  obtain ⟨u13, hg13, hv⟩ := own_bind hv
  obtain ⟨T13, h13, X13, e13, W13, V'13, st13⟩ := own_iastore X12 C e12 V_pp (j := x1) (x := x2) hg13 (hb hby d4_122)
  refine own_go st13 ?_
  replace E_o0 := E_o0.wr W13
  replace F_o0_root := F_o0_root.other W13 (Or.inl (own_ne (by omega)))
  replace F_o0_following := F_o0_following.other W13 (Or.inl (own_ne (by omega)))
  replace F_o0_preceding := F_o0_preceding.other W13 (Or.inl (own_ne (by omega)))
  replace F_o0_depth := F_o0_depth.other W13 (Or.inl (own_ne (by omega)))
  replace V_pf := V_pf.other W13 (own_ne (by omega))
  replace V_pd := V_pd.other W13 (own_ne (by omega))
  replace V_pp := V'13
  clear V'13
  replace K := K.wr W13 (Or.inl (List.mem_of_getElem? (i := 1) rfl))
  replace N := Fr.snoc X13 N (by omega)
  show own_WP p e below _ T13 (mkF m 123 #[.val (.ref o0), .val (.int x1), .val (.int x2), s3] [])
  refine own_go (fun _ => XS.aloadN X13.here hx rfl (hb hby d4_123) rfl rfl) ?_
  show own_WP p e below _ T13 (mkF m 124 #[.val (.ref o0), .val (.int x1), .val (.int x2), s3] [(.ref o0)])
  obtain ⟨T14, X14, e14, st14⟩ := getF X13 hx hZ hown (host := "") (Or.inl (hw _ (List.mem_of_getElem? (i := 16) rfl))) Via.refl e13 F_o0_depth (g := (mkF m 124 #[.val (.ref o0), .val (.int x1), .val (.int x2), s3] [(.ref o0)])) rfl rfl (hb hby d4_124)
  refine own_go st14 ?_
  show own_WP p e below _ T14 (mkF m 127 #[.val (.ref o0), .val (.int x1), .val (.int x2), s3] [(.ref pd)])
  refine own_go (fun _ => XS.iloadN X14.here hx rfl (hb hby d4_127) rfl) ?_
  show own_WP p e below _ T14 (mkF m 128 #[.val (.ref o0), .val (.int x1), .val (.int x2), s3] [(.int x1), (.ref pd)])
  refine own_go (fun _ => XS.aloadN X14.here hx rfl (hb hby d4_128) rfl rfl) ?_
  show own_WP p e below _ T14 (mkF m 129 #[.val (.ref o0), .val (.int x1), .val (.int x2), s3] [(.ref o0), (.int x1), (.ref pd)])
  obtain ⟨T15, X15, e15, st15⟩ := getF X14 hx hZ hown (host := "") (Or.inl (hw _ (List.mem_of_getElem? (i := 16) rfl))) Via.refl e14 F_o0_depth (g := (mkF m 129 #[.val (.ref o0), .val (.int x1), .val (.int x2), s3] [(.ref o0), (.int x1), (.ref pd)])) rfl rfl (hb hby d4_129)
  refine own_go st15 ?_
  show own_WP p e below _ T15 (mkF m 132 #[.val (.ref o0), .val (.int x1), .val (.int x2), s3] [(.ref pd), (.int x1), (.ref pd)])
  refine own_go (fun _ => XS.iloadN X15.here hx rfl (hb hby d4_132) rfl) ?_
  show own_WP p e below _ T15 (mkF m 133 #[.val (.ref o0), .val (.int x1), .val (.int x2), s3] [(.int x2), (.ref pd), (.int x1), (.ref pd)])
  obtain ⟨w16, hg16, hv⟩ := own_bind hv
  refine own_go (own_iaload X15 C e15 V_pd hg16 (hb hby d4_133)) ?_
  show own_WP p e below _ T15 (mkF m 134 #[.val (.ref o0), .val (.int x1), .val (.int x2), s3] [(.int w16), (.int x1), (.ref pd)])
  refine own_go (fun _ => XS.iconst X15.here hx rfl (hb hby d4_134)) ?_
  show own_WP p e below _ T15 (mkF m 135 #[.val (.ref o0), .val (.int x1), .val (.int x2), s3] [(.int (1 : Int32)), (.int w16), (.int x1), (.ref pd)])
  refine own_go (fun _ => XS.iadd X15.here hx rfl (hb hby d4_135) rfl) ?_
  show own_WP p e below _ T15 (mkF m 136 #[.val (.ref o0), .val (.int x1), .val (.int x2), s3] [(.int (w16 + (1 : Int32))), (.int x1), (.ref pd)])
  obtain ⟨u17, hg17, hv⟩ := own_bind hv
  obtain ⟨T17, h17, X17, e17, W17, V'17, st17⟩ := own_iastore X15 C e15 V_pd (j := x1) (x := (w16 + (1 : Int32))) hg17 (hb hby d4_136)
  refine own_go st17 ?_
  replace E_o0 := E_o0.wr W17
  replace F_o0_root := F_o0_root.other W17 (Or.inl (own_ne (by omega)))
  replace F_o0_following := F_o0_following.other W17 (Or.inl (own_ne (by omega)))
  replace F_o0_preceding := F_o0_preceding.other W17 (Or.inl (own_ne (by omega)))
  replace F_o0_depth := F_o0_depth.other W17 (Or.inl (own_ne (by omega)))
  replace V_pf := V_pf.other W17 (own_ne (by omega))
  replace V_pp := V_pp.other W17 (own_ne (by omega))
  replace V_pd := V'17
  clear V'17
  replace K := K.wr W17 (Or.inl (List.mem_of_getElem? (i := 2) rfl))
  replace N := Fr.snoc X17 N (by omega)
  show own_WP p e below _ T17 (mkF m 137 #[.val (.ref o0), .val (.int x1), .val (.int x2), s3] [])
  refine own_go (fun _ => XS.iconst X17.here hx rfl (hb hby d4_137)) ?_
  show own_WP p e below _ T17 (mkF m 138 #[.val (.ref o0), .val (.int x1), .val (.int x2), s3] [(.int (1 : Int32))])
  obtain rfl := Option.some.inj hv
  exact own_retN X17 C (by simp) (hb hby d4_138) (by rw [e17]; exact hP _ _ _ N K ⟨rfl, V_pf, V_pp, V_pd⟩) (by decide) (by decide)
def f4_22 : Nat → Int32 → (List Int32) → (List Int32) → (List Int32) → Int32 → Int32 → Int32 → Option (Int32 × (List Int32) × (List Int32) × (List Int32))
  | 0 => fun _ _ _ _ _ _ _ => none
  | k + 1 => fun n v_pf v_pp v_pd x1 x2 x3 => ((own_get v_pd x3).bind fun w21 => ((own_get v_pd x1).bind fun w23 => (if w23 < w21 then (if x3 = x2 then (some ((0 : Int32), v_pf, v_pp, v_pd)) else ((own_set v_pd x3 (-1 : Int32)).bind fun u25 => ((own_get v_pf x3).bind fun w27 => (f4_22 k n v_pf v_pp u25 x1 x2 w27)))) else ((own_get v_pp x1).bind fun w30 => ((own_set v_pf w30 x3).bind fun u31 => ((own_get v_pp x1).bind fun w34 => ((own_set v_pp x3 w34).bind fun u35 => (f4_85 u31 u35 v_pd x1 x2))))))))
set_option maxRecDepth 65536 in
set_option maxHeartbeats 40000000 in
theorem b4_22 {p : Program} {l : Launch} {e : Env} {s : State} {m : MethodId} {args : Array Value} {below : List Frame} {meth : Method} {c : Code} {Z : State} {a0 : Array Value} {h0 : Heap} {n0 : Nat} {P : Option Value → Heap → List Loc → Prop} (hw : ∀ d ∈ tables_1, d.before a0 Z = true) (C : own_Ctx p s m meth c Z (⟨"com/example/gridfare/gridfare/engine/LoweringTree", "hang", "(II)Z"⟩ : MethodName) prog_39_method_4_code 4 (some .boolean)) (Z0 : n0 ≤ h0.size) {o0 : Nat} {pf : Nat} {pp : Nat} {pd : Nat} {n : Int32} (rr : Int32 × (List Int32) × (List Int32) × (List Int32)) (hP : ∀ v h L, Fr n0 L → Keep h0 h [pf, pp, pd] → E4 Z h0 o0 pf pp pd n rr v h → P v h L) (k : Nat) : ∀ {T : State} {locs : List Loc} {h : Heap} {v_pf : List Int32} {v_pp : List Int32} {v_pd : List Int32} (X : Stand p l e rmR4 s m args below meth c T locs 0 0) (e0 : T.heap = h) (N : Fr n0 locs) (K : Keep h0 h [pf, pp, pd]) (o_o0_pf : o0 < pf) (o_pf_pp : pf < pp) (o_pp_pd : pp < pd) (g_o0 : n0 ≤ o0) (E_o0 : Exa Z h o0 "com/example/gridfare/gridfare/engine/LoweringTree") (F_o0_root : Fld Z h o0 "com/example/gridfare/gridfare/engine/LoweringTree" "root" "I" (.int n)) (F_o0_following : Fld Z h o0 "com/example/gridfare/gridfare/engine/LoweringTree" "following" "[I" (.ref pf)) (F_o0_preceding : Fld Z h o0 "com/example/gridfare/gridfare/engine/LoweringTree" "preceding" "[I" (.ref pp)) (F_o0_depth : Fld Z h o0 "com/example/gridfare/gridfare/engine/LoweringTree" "depth" "[I" (.ref pd)) (V_pf : own_AI Z h pf .int v_pf) (V_pp : own_AI Z h pp .int v_pp) (V_pd : own_AI Z h pd .int v_pd) (x1 : Int32) (x2 : Int32) (x3 : Int32) (hv : f4_22 k n v_pf v_pp v_pd x1 x2 x3 = some rr),
    own_WP p e below (own_Q s P rmR4.cells rmR4.slots) T (mkF m 22 #[.val (.ref o0), .val (.int x1), .val (.int x2), .val (.int x3)] []) := by
  obtain ⟨hx, hZ, hby, hml, hown, hnm, hret, hlk⟩ := id C
  replace hown : s.vm.findClass "com/example/gridfare/gridfare/engine/LoweringTree" = some m.cls := hown
  induction k with
  | zero => intros; rename_i hv; cases hv
  | succ k ih =>
    intro T locs h v_pf v_pp v_pd X e0 N K o_o0_pf o_pf_pp o_pp_pd g_o0 E_o0 F_o0_root F_o0_following F_o0_preceding F_o0_depth V_pf V_pp V_pd x1 x2 x3 hv
    unfold f4_22 at hv
    show own_WP p e below _ T (mkF m 22 #[.val (.ref o0), .val (.int x1), .val (.int x2), .val (.int x3)] [])
    refine own_go (fun _ => XS.aloadN X.here hx rfl (hb hby d4_22) rfl rfl) ?_
    show own_WP p e below _ T (mkF m 23 #[.val (.ref o0), .val (.int x1), .val (.int x2), .val (.int x3)] [(.ref o0)])
    obtain ⟨T20, X20, e20, st20⟩ := getF X hx hZ hown (host := "") (Or.inl (hw _ (List.mem_of_getElem? (i := 16) rfl))) Via.refl e0 F_o0_depth (g := (mkF m 23 #[.val (.ref o0), .val (.int x1), .val (.int x2), .val (.int x3)] [(.ref o0)])) rfl rfl (hb hby d4_23)
    refine own_go st20 ?_
    show own_WP p e below _ T20 (mkF m 26 #[.val (.ref o0), .val (.int x1), .val (.int x2), .val (.int x3)] [(.ref pd)])
    refine own_go (fun _ => XS.iloadN X20.here hx rfl (hb hby d4_26) rfl) ?_
    show own_WP p e below _ T20 (mkF m 27 #[.val (.ref o0), .val (.int x1), .val (.int x2), .val (.int x3)] [(.int x3), (.ref pd)])
    obtain ⟨w21, hg21, hv⟩ := own_bind hv
    refine own_go (own_iaload X20 C e20 V_pd hg21 (hb hby d4_27)) ?_
    show own_WP p e below _ T20 (mkF m 28 #[.val (.ref o0), .val (.int x1), .val (.int x2), .val (.int x3)] [(.int w21)])
    refine own_go (fun _ => XS.aloadN X20.here hx rfl (hb hby d4_28) rfl rfl) ?_
    show own_WP p e below _ T20 (mkF m 29 #[.val (.ref o0), .val (.int x1), .val (.int x2), .val (.int x3)] [(.ref o0), (.int w21)])
    obtain ⟨T22, X22, e22, st22⟩ := getF X20 hx hZ hown (host := "") (Or.inl (hw _ (List.mem_of_getElem? (i := 16) rfl))) Via.refl e20 F_o0_depth (g := (mkF m 29 #[.val (.ref o0), .val (.int x1), .val (.int x2), .val (.int x3)] [(.ref o0), (.int w21)])) rfl rfl (hb hby d4_29)
    refine own_go st22 ?_
    show own_WP p e below _ T22 (mkF m 32 #[.val (.ref o0), .val (.int x1), .val (.int x2), .val (.int x3)] [(.ref pd), (.int w21)])
    refine own_go (fun _ => XS.iloadN X22.here hx rfl (hb hby d4_32) rfl) ?_
    show own_WP p e below _ T22 (mkF m 33 #[.val (.ref o0), .val (.int x1), .val (.int x2), .val (.int x3)] [(.int x1), (.ref pd), (.int w21)])
    obtain ⟨w23, hg23, hv⟩ := own_bind hv
    refine own_go (own_iaload X22 C e22 V_pd hg23 (hb hby d4_33)) ?_
    show own_WP p e below _ T22 (mkF m 34 #[.val (.ref o0), .val (.int x1), .val (.int x2), .val (.int x3)] [(.int w23), (.int w21)])
    by_cases h34 : w23 < w21
    · replace hv := (if_pos h34).symm.trans hv
      refine own_go (fun _ => XS.icmpNo X22.here hx rfl (hb hby d4_34) rfl (XT.ii_le_f h34)) ?_
      show own_WP p e below _ T22 (mkF m 37 #[.val (.ref o0), .val (.int x1), .val (.int x2), .val (.int x3)] [])
      refine own_go (fun _ => XS.iloadN X22.here hx rfl (hb hby d4_37) rfl) ?_
      show own_WP p e below _ T22 (mkF m 38 #[.val (.ref o0), .val (.int x1), .val (.int x2), .val (.int x3)] [(.int x3)])
      refine own_go (fun _ => XS.iloadN X22.here hx rfl (hb hby d4_38) rfl) ?_
      show own_WP p e below _ T22 (mkF m 39 #[.val (.ref o0), .val (.int x1), .val (.int x2), .val (.int x3)] [(.int x2), (.int x3)])
      by_cases h39 : x3 = x2
      · replace hv := (if_pos h39).symm.trans hv
        refine own_go (fun _ => XS.icmpNo X22.here hx rfl (hb hby d4_39) rfl (XT.ii_ne_f h39)) ?_
        show own_WP p e below _ T22 (mkF m 42 #[.val (.ref o0), .val (.int x1), .val (.int x2), .val (.int x3)] [])
        refine own_go (fun _ => XS.iconst X22.here hx rfl (hb hby d4_42)) ?_
        show own_WP p e below _ T22 (mkF m 43 #[.val (.ref o0), .val (.int x1), .val (.int x2), .val (.int x3)] [(.int (0 : Int32))])
        obtain rfl := Option.some.inj hv
        exact own_retN X22 C (by simp) (hb hby d4_43) (by rw [e22]; exact hP _ _ _ N K ⟨rfl, V_pf, V_pp, V_pd⟩) (by decide) (by decide)
      · replace hv := (if_neg h39).symm.trans hv
        refine own_go (fun _ => XS.icmpYes X22.here hx rfl (pc0 := 39) (pc' := 44) rfl (hb hby d4_39) rfl (XT.ii_ne_t h39) (by decide) (by decide)) ?_
        show own_WP p e below _ T22 (mkF m 44 #[.val (.ref o0), .val (.int x1), .val (.int x2), .val (.int x3)] [])
        refine own_go (fun _ => XS.aloadN X22.here hx rfl (hb hby d4_44) rfl rfl) ?_
        show own_WP p e below _ T22 (mkF m 45 #[.val (.ref o0), .val (.int x1), .val (.int x2), .val (.int x3)] [(.ref o0)])
        obtain ⟨T24, X24, e24, st24⟩ := getF X22 hx hZ hown (host := "") (Or.inl (hw _ (List.mem_of_getElem? (i := 16) rfl))) Via.refl e22 F_o0_depth (g := (mkF m 45 #[.val (.ref o0), .val (.int x1), .val (.int x2), .val (.int x3)] [(.ref o0)])) rfl rfl (hb hby d4_45)
        refine own_go st24 ?_
        show own_WP p e below _ T24 (mkF m 48 #[.val (.ref o0), .val (.int x1), .val (.int x2), .val (.int x3)] [(.ref pd)])
        refine own_go (fun _ => XS.iloadN X24.here hx rfl (hb hby d4_48) rfl) ?_
        show own_WP p e below _ T24 (mkF m 49 #[.val (.ref o0), .val (.int x1), .val (.int x2), .val (.int x3)] [(.int x3), (.ref pd)])
        refine own_go (fun _ => XS.iconst X24.here hx rfl (hb hby d4_49)) ?_
        show own_WP p e below _ T24 (mkF m 50 #[.val (.ref o0), .val (.int x1), .val (.int x2), .val (.int x3)] [(.int (-1 : Int32)), (.int x3), (.ref pd)])
        obtain ⟨u25, hg25, hv⟩ := own_bind hv
        obtain ⟨T25, h25, X25, e25, W25, V'25, st25⟩ := own_iastore X24 C e24 V_pd (j := x3) (x := (-1 : Int32)) hg25 (hb hby d4_50)
        refine own_go st25 ?_
        replace E_o0 := E_o0.wr W25
        replace F_o0_root := F_o0_root.other W25 (Or.inl (own_ne (by omega)))
        replace F_o0_following := F_o0_following.other W25 (Or.inl (own_ne (by omega)))
        replace F_o0_preceding := F_o0_preceding.other W25 (Or.inl (own_ne (by omega)))
        replace F_o0_depth := F_o0_depth.other W25 (Or.inl (own_ne (by omega)))
        replace V_pf := V_pf.other W25 (own_ne (by omega))
        replace V_pp := V_pp.other W25 (own_ne (by omega))
        replace V_pd := V'25
        clear V'25
        replace K := K.wr W25 (Or.inl (List.mem_of_getElem? (i := 2) rfl))
        replace N := Fr.snoc X25 N (by omega)
        show own_WP p e below _ T25 (mkF m 51 #[.val (.ref o0), .val (.int x1), .val (.int x2), .val (.int x3)] [])
        refine own_go (fun _ => XS.aloadN X25.here hx rfl (hb hby d4_51) rfl rfl) ?_
        show own_WP p e below _ T25 (mkF m 52 #[.val (.ref o0), .val (.int x1), .val (.int x2), .val (.int x3)] [(.ref o0)])
        obtain ⟨T26, X26, e26, st26⟩ := getF X25 hx hZ hown (host := "") (Or.inl (hw _ (List.mem_of_getElem? (i := 12) rfl))) Via.refl e25 F_o0_following (g := (mkF m 52 #[.val (.ref o0), .val (.int x1), .val (.int x2), .val (.int x3)] [(.ref o0)])) rfl rfl (hb hby d4_52)
        refine own_go st26 ?_
        show own_WP p e below _ T26 (mkF m 55 #[.val (.ref o0), .val (.int x1), .val (.int x2), .val (.int x3)] [(.ref pf)])
        refine own_go (fun _ => XS.iloadN X26.here hx rfl (hb hby d4_55) rfl) ?_
        show own_WP p e below _ T26 (mkF m 56 #[.val (.ref o0), .val (.int x1), .val (.int x2), .val (.int x3)] [(.int x3), (.ref pf)])
        obtain ⟨w27, hg27, hv⟩ := own_bind hv
        refine own_go (own_iaload X26 C e26 V_pf hg27 (hb hby d4_56)) ?_
        show own_WP p e below _ T26 (mkF m 57 #[.val (.ref o0), .val (.int x1), .val (.int x2), .val (.int x3)] [(.int w27)])
        refine own_go (fun _ => XS.istoreN X26.here hx rfl (hb hby d4_57) rfl (l' := #[.val (.ref o0), .val (.int x1), .val (.int x2), .val (.int w27)]) rfl) ?_
        show own_WP p e below _ T26 (mkF m 58 #[.val (.ref o0), .val (.int x1), .val (.int x2), .val (.int w27)] [])
        refine own_go (fun _ => XS.goto X26.here hx rfl (pc0 := 58) (pc' := 22) rfl (hb hby d4_58) (by decide) (by decide)) ?_
        exact ih X26 e26 N K o_o0_pf o_pf_pp o_pp_pd g_o0 E_o0 F_o0_root F_o0_following F_o0_preceding F_o0_depth V_pf V_pp V_pd x1 x2 w27 hv
    · replace hv := (if_neg h34).symm.trans hv
      refine own_go (fun _ => XS.icmpYes X22.here hx rfl (pc0 := 34) (pc' := 61) rfl (hb hby d4_34) rfl (XT.ii_le_t h34) (by decide) (by decide)) ?_
      show own_WP p e below _ T22 (mkF m 61 #[.val (.ref o0), .val (.int x1), .val (.int x2), .val (.int x3)] [])
      refine own_go (fun _ => XS.aloadN X22.here hx rfl (hb hby d4_61) rfl rfl) ?_
      show own_WP p e below _ T22 (mkF m 62 #[.val (.ref o0), .val (.int x1), .val (.int x2), .val (.int x3)] [(.ref o0)])
      obtain ⟨T28, X28, e28, st28⟩ := getF X22 hx hZ hown (host := "") (Or.inl (hw _ (List.mem_of_getElem? (i := 12) rfl))) Via.refl e22 F_o0_following (g := (mkF m 62 #[.val (.ref o0), .val (.int x1), .val (.int x2), .val (.int x3)] [(.ref o0)])) rfl rfl (hb hby d4_62)
      refine own_go st28 ?_
      show own_WP p e below _ T28 (mkF m 65 #[.val (.ref o0), .val (.int x1), .val (.int x2), .val (.int x3)] [(.ref pf)])
      refine own_go (fun _ => XS.aloadN X28.here hx rfl (hb hby d4_65) rfl rfl) ?_
      show own_WP p e below _ T28 (mkF m 66 #[.val (.ref o0), .val (.int x1), .val (.int x2), .val (.int x3)] [(.ref o0), (.ref pf)])
      obtain ⟨T29, X29, e29, st29⟩ := getF X28 hx hZ hown (host := "") (Or.inl (hw _ (List.mem_of_getElem? (i := 14) rfl))) Via.refl e28 F_o0_preceding (g := (mkF m 66 #[.val (.ref o0), .val (.int x1), .val (.int x2), .val (.int x3)] [(.ref o0), (.ref pf)])) rfl rfl (hb hby d4_66)
      refine own_go st29 ?_
      show own_WP p e below _ T29 (mkF m 69 #[.val (.ref o0), .val (.int x1), .val (.int x2), .val (.int x3)] [(.ref pp), (.ref pf)])
      refine own_go (fun _ => XS.iloadN X29.here hx rfl (hb hby d4_69) rfl) ?_
      show own_WP p e below _ T29 (mkF m 70 #[.val (.ref o0), .val (.int x1), .val (.int x2), .val (.int x3)] [(.int x1), (.ref pp), (.ref pf)])
      obtain ⟨w30, hg30, hv⟩ := own_bind hv
      refine own_go (own_iaload X29 C e29 V_pp hg30 (hb hby d4_70)) ?_
      show own_WP p e below _ T29 (mkF m 71 #[.val (.ref o0), .val (.int x1), .val (.int x2), .val (.int x3)] [(.int w30), (.ref pf)])
      refine own_go (fun _ => XS.iloadN X29.here hx rfl (hb hby d4_71) rfl) ?_
      show own_WP p e below _ T29 (mkF m 72 #[.val (.ref o0), .val (.int x1), .val (.int x2), .val (.int x3)] [(.int x3), (.int w30), (.ref pf)])
      obtain ⟨u31, hg31, hv⟩ := own_bind hv
      obtain ⟨T31, h31, X31, e31, W31, V'31, st31⟩ := own_iastore X29 C e29 V_pf (j := w30) (x := x3) hg31 (hb hby d4_72)
      refine own_go st31 ?_
      replace E_o0 := E_o0.wr W31
      replace F_o0_root := F_o0_root.other W31 (Or.inl (own_ne (by omega)))
      replace F_o0_following := F_o0_following.other W31 (Or.inl (own_ne (by omega)))
      replace F_o0_preceding := F_o0_preceding.other W31 (Or.inl (own_ne (by omega)))
      replace F_o0_depth := F_o0_depth.other W31 (Or.inl (own_ne (by omega)))
      replace V_pp := V_pp.other W31 (own_ne (by omega))
      replace V_pd := V_pd.other W31 (own_ne (by omega))
      replace V_pf := V'31
      clear V'31
      replace K := K.wr W31 (Or.inl (List.mem_of_getElem? (i := 0) rfl))
      replace N := Fr.snoc X31 N (by omega)
      show own_WP p e below _ T31 (mkF m 73 #[.val (.ref o0), .val (.int x1), .val (.int x2), .val (.int x3)] [])
      refine own_go (fun _ => XS.aloadN X31.here hx rfl (hb hby d4_73) rfl rfl) ?_
      show own_WP p e below _ T31 (mkF m 74 #[.val (.ref o0), .val (.int x1), .val (.int x2), .val (.int x3)] [(.ref o0)])
      obtain ⟨T32, X32, e32, st32⟩ := getF X31 hx hZ hown (host := "") (Or.inl (hw _ (List.mem_of_getElem? (i := 14) rfl))) Via.refl e31 F_o0_preceding (g := (mkF m 74 #[.val (.ref o0), .val (.int x1), .val (.int x2), .val (.int x3)] [(.ref o0)])) rfl rfl (hb hby d4_74)
      refine own_go st32 ?_
      show own_WP p e below _ T32 (mkF m 77 #[.val (.ref o0), .val (.int x1), .val (.int x2), .val (.int x3)] [(.ref pp)])
      refine own_go (fun _ => XS.iloadN X32.here hx rfl (hb hby d4_77) rfl) ?_
      show own_WP p e below _ T32 (mkF m 78 #[.val (.ref o0), .val (.int x1), .val (.int x2), .val (.int x3)] [(.int x3), (.ref pp)])
      refine own_go (fun _ => XS.aloadN X32.here hx rfl (hb hby d4_78) rfl rfl) ?_
      show own_WP p e below _ T32 (mkF m 79 #[.val (.ref o0), .val (.int x1), .val (.int x2), .val (.int x3)] [(.ref o0), (.int x3), (.ref pp)])
      obtain ⟨T33, X33, e33, st33⟩ := getF X32 hx hZ hown (host := "") (Or.inl (hw _ (List.mem_of_getElem? (i := 14) rfl))) Via.refl e32 F_o0_preceding (g := (mkF m 79 #[.val (.ref o0), .val (.int x1), .val (.int x2), .val (.int x3)] [(.ref o0), (.int x3), (.ref pp)])) rfl rfl (hb hby d4_79)
      refine own_go st33 ?_
      show own_WP p e below _ T33 (mkF m 82 #[.val (.ref o0), .val (.int x1), .val (.int x2), .val (.int x3)] [(.ref pp), (.int x3), (.ref pp)])
      refine own_go (fun _ => XS.iloadN X33.here hx rfl (hb hby d4_82) rfl) ?_
      show own_WP p e below _ T33 (mkF m 83 #[.val (.ref o0), .val (.int x1), .val (.int x2), .val (.int x3)] [(.int x1), (.ref pp), (.int x3), (.ref pp)])
      obtain ⟨w34, hg34, hv⟩ := own_bind hv
      refine own_go (own_iaload X33 C e33 V_pp hg34 (hb hby d4_83)) ?_
      show own_WP p e below _ T33 (mkF m 84 #[.val (.ref o0), .val (.int x1), .val (.int x2), .val (.int x3)] [(.int w34), (.int x3), (.ref pp)])
      obtain ⟨u35, hg35, hv⟩ := own_bind hv
      obtain ⟨T35, h35, X35, e35, W35, V'35, st35⟩ := own_iastore X33 C e33 V_pp (j := x3) (x := w34) hg35 (hb hby d4_84)
      refine own_go st35 ?_
      replace E_o0 := E_o0.wr W35
      replace F_o0_root := F_o0_root.other W35 (Or.inl (own_ne (by omega)))
      replace F_o0_following := F_o0_following.other W35 (Or.inl (own_ne (by omega)))
      replace F_o0_preceding := F_o0_preceding.other W35 (Or.inl (own_ne (by omega)))
      replace F_o0_depth := F_o0_depth.other W35 (Or.inl (own_ne (by omega)))
      replace V_pf := V_pf.other W35 (own_ne (by omega))
      replace V_pd := V_pd.other W35 (own_ne (by omega))
      replace V_pp := V'35
      clear V'35
      replace K := K.wr W35 (Or.inl (List.mem_of_getElem? (i := 1) rfl))
      replace N := Fr.snoc X35 N (by omega)
      exact b4_85 hw C Z0 rr hP X35 e35 N K o_o0_pf o_pf_pp o_pp_pd g_o0 E_o0 F_o0_root F_o0_following F_o0_preceding F_o0_depth V_pf V_pp V_pd x1 x2 (.val (.int x3)) (One.val rfl) hv
def f4_0 (n : Int32) (v_pf : List Int32) (v_pp : List Int32) (v_pd : List Int32) (x1 : Int32) (x2 : Int32) : Option (Int32 × (List Int32) × (List Int32) × (List Int32)) := (if x2 = x1 then (some ((0 : Int32), v_pf, v_pp, v_pd)) else ((f5_0 v_pd x1).bind fun rr1 => (if rr1 = (0 : Int32) then (f4_85 v_pf v_pp v_pd x1 x2) else ((own_get v_pf x1).bind fun w19 => (f4_22 20 n v_pf v_pp v_pd x1 x2 w19)))))
set_option maxRecDepth 65536 in
set_option maxHeartbeats 40000000 in
theorem b4_0 {p : Program} {l : Launch} {e : Env} {s : State} {m : MethodId} {args : Array Value} {below : List Frame} {meth : Method} {c : Code} {Z : State} {a0 : Array Value} {h0 : Heap} {n0 : Nat} {P : Option Value → Heap → List Loc → Prop} (hw : ∀ d ∈ tables_1, d.before a0 Z = true) (C : own_Ctx p s m meth c Z (⟨"com/example/gridfare/gridfare/engine/LoweringTree", "hang", "(II)Z"⟩ : MethodName) prog_39_method_4_code 4 (some .boolean)) (Z0 : n0 ≤ h0.size) {o0 : Nat} {pf : Nat} {pp : Nat} {pd : Nat} {n : Int32} (rr : Int32 × (List Int32) × (List Int32) × (List Int32)) (hP : ∀ v h L, Fr n0 L → Keep h0 h [pf, pp, pd] → E4 Z h0 o0 pf pp pd n rr v h → P v h L)
    {T : State} {locs : List Loc} {h : Heap} {v_pf : List Int32} {v_pp : List Int32} {v_pd : List Int32} (X : Stand p l e rmR4 s m args below meth c T locs 0 0) (e0 : T.heap = h) (N : Fr n0 locs) (K : Keep h0 h [pf, pp, pd]) (o_o0_pf : o0 < pf) (o_pf_pp : pf < pp) (o_pp_pd : pp < pd) (g_o0 : n0 ≤ o0) (E_o0 : Exa Z h o0 "com/example/gridfare/gridfare/engine/LoweringTree") (F_o0_root : Fld Z h o0 "com/example/gridfare/gridfare/engine/LoweringTree" "root" "I" (.int n)) (F_o0_following : Fld Z h o0 "com/example/gridfare/gridfare/engine/LoweringTree" "following" "[I" (.ref pf)) (F_o0_preceding : Fld Z h o0 "com/example/gridfare/gridfare/engine/LoweringTree" "preceding" "[I" (.ref pp)) (F_o0_depth : Fld Z h o0 "com/example/gridfare/gridfare/engine/LoweringTree" "depth" "[I" (.ref pd)) (V_pf : own_AI Z h pf .int v_pf) (V_pp : own_AI Z h pp .int v_pp) (V_pd : own_AI Z h pd .int v_pd) (x1 : Int32) (x2 : Int32) (hv : f4_0 n v_pf v_pp v_pd x1 x2 = some rr) :
    own_WP p e below (own_Q s P rmR4.cells rmR4.slots) T (mkF m 0 #[.val (.ref o0), .val (.int x1), .val (.int x2), .unset] []) := by
  obtain ⟨hx, hZ, hby, hml, hown, hnm, hret, hlk⟩ := id C
  replace hown : s.vm.findClass "com/example/gridfare/gridfare/engine/LoweringTree" = some m.cls := hown
  unfold f4_0 at hv
  show own_WP p e below _ T (mkF m 0 #[.val (.ref o0), .val (.int x1), .val (.int x2), .unset] [])
  refine own_go (fun _ => XS.iloadN X.here hx rfl (hb hby d4_0) rfl) ?_
  show own_WP p e below _ T (mkF m 1 #[.val (.ref o0), .val (.int x1), .val (.int x2), .unset] [(.int x2)])
  refine own_go (fun _ => XS.iloadN X.here hx rfl (hb hby d4_1) rfl) ?_
  show own_WP p e below _ T (mkF m 2 #[.val (.ref o0), .val (.int x1), .val (.int x2), .unset] [(.int x1), (.int x2)])
  by_cases h2 : x2 = x1
  · replace hv := (if_pos h2).symm.trans hv
    refine own_go (fun _ => XS.icmpNo X.here hx rfl (hb hby d4_2) rfl (XT.ii_ne_f h2)) ?_
    show own_WP p e below _ T (mkF m 5 #[.val (.ref o0), .val (.int x1), .val (.int x2), .unset] [])
    refine own_go (fun _ => XS.iconst X.here hx rfl (hb hby d4_5)) ?_
    show own_WP p e below _ T (mkF m 6 #[.val (.ref o0), .val (.int x1), .val (.int x2), .unset] [(.int (0 : Int32))])
    obtain rfl := Option.some.inj hv
    exact own_retN X C (by simp) (hb hby d4_6) (by rw [e0]; exact hP _ _ _ N K ⟨rfl, V_pf, V_pp, V_pd⟩) (by decide) (by decide)
  · replace hv := (if_neg h2).symm.trans hv
    refine own_go (fun _ => XS.icmpYes X.here hx rfl (pc0 := 2) (pc' := 7) rfl (hb hby d4_2) rfl (XT.ii_ne_t h2) (by decide) (by decide)) ?_
    show own_WP p e below _ T (mkF m 7 #[.val (.ref o0), .val (.int x1), .val (.int x2), .unset] [])
    refine own_go (fun _ => XS.aloadN X.here hx rfl (hb hby d4_7) rfl rfl) ?_
    show own_WP p e below _ T (mkF m 8 #[.val (.ref o0), .val (.int x1), .val (.int x2), .unset] [(.ref o0)])
    refine own_go (fun _ => XS.iloadN X.here hx rfl (hb hby d4_8) rfl) ?_
    show own_WP p e below _ T (mkF m 9 #[.val (.ref o0), .val (.int x1), .val (.int x2), .unset] [(.int x1), (.ref o0)])
    obtain ⟨rr1, hf1, hv⟩ := own_bind hv
    obtain ⟨T1, v1, L1, X1, ⟨N1, K1, Q1⟩, st1⟩ := own_callV X C (a := o0) (argsL := [(.int x1)]) (rm5 l Z a0 hw n0 h (by have q := K.1; omega) (by omega) (by omega) (by omega) (by omega) E_o0 F_o0_root F_o0_following F_o0_preceding F_o0_depth V_pf V_pp V_pd x1 rr1 hf1) (hw _ (List.mem_of_getElem? (i := 30) rfl)) (hw _ (List.mem_of_getElem? (i := 31) rfl)) (hw _ (List.mem_of_getElem? (i := 33) rfl)) (hw _ (List.mem_of_getElem? (i := 32) rfl)) (hw _ (List.mem_of_getElem? (i := 2) rfl)) (hw _ (List.mem_of_getElem? (i := 34) rfl)) (by decide) e0 E_o0 (W := 0) (pc := 9) (Ls := #[.val (.ref o0), .val (.int x1), .val (.int x2), .unset]) rfl (lenOf pd5 rfl) (rest := []) (stk := [(.int x1), (.ref o0)]) rfl (Nat.le_of_ble_eq_true rfl) (hb hby d4_9) (by decide) (by decide) (by decide) (by decide)
    replace N := Fr.app N N1
    replace E_o0 := E_o0.keep K1
    replace F_o0_root := F_o0_root.keep K1 nin0
    replace F_o0_following := F_o0_following.keep K1 nin0
    replace F_o0_preceding := F_o0_preceding.keep K1 nin0
    replace F_o0_depth := F_o0_depth.keep K1 nin0
    replace V_pf := V_pf.keep K1 nin0
    replace V_pp := V_pp.keep K1 nin0
    replace V_pd := V_pd.keep K1 nin0
    obtain ⟨rfl⟩ := Q1
    replace K := K.trans K1 all0
    refine own_go st1 ?_
    show own_WP p e below _ T1 (mkF m 12 #[.val (.ref o0), .val (.int x1), .val (.int x2), .unset] [(.int rr1)])
    by_cases h12 : rr1 = (0 : Int32)
    · replace hv := (if_pos h12).symm.trans hv
      refine own_go (fun _ => XS.ifYes X1.here hx rfl (pc0 := 12) (pc' := 85) rfl (hb hby d4_12) rfl (XT.i0_eq_t h12) (by decide) (by decide)) ?_
      exact b4_85 hw C Z0 rr hP X1 (rfl : T1.heap = T1.heap) N K o_o0_pf o_pf_pp o_pp_pd g_o0 E_o0 F_o0_root F_o0_following F_o0_preceding F_o0_depth V_pf V_pp V_pd x1 x2 (.unset) One.u hv
    · replace hv := (if_neg h12).symm.trans hv
      refine own_go (fun _ => XS.ifNo X1.here hx rfl (hb hby d4_12) rfl (XT.i0_eq_f h12)) ?_
      show own_WP p e below _ T1 (mkF m 15 #[.val (.ref o0), .val (.int x1), .val (.int x2), .unset] [])
      refine own_go (fun _ => XS.aloadN X1.here hx rfl (hb hby d4_15) rfl rfl) ?_
      show own_WP p e below _ T1 (mkF m 16 #[.val (.ref o0), .val (.int x1), .val (.int x2), .unset] [(.ref o0)])
      obtain ⟨T18, X18, e18, st18⟩ := getF X1 hx hZ hown (host := "") (Or.inl (hw _ (List.mem_of_getElem? (i := 12) rfl))) Via.refl (rfl : T1.heap = T1.heap) F_o0_following (g := (mkF m 16 #[.val (.ref o0), .val (.int x1), .val (.int x2), .unset] [(.ref o0)])) rfl rfl (hb hby d4_16)
      refine own_go st18 ?_
      show own_WP p e below _ T18 (mkF m 19 #[.val (.ref o0), .val (.int x1), .val (.int x2), .unset] [(.ref pf)])
      refine own_go (fun _ => XS.iloadN X18.here hx rfl (hb hby d4_19) rfl) ?_
      show own_WP p e below _ T18 (mkF m 20 #[.val (.ref o0), .val (.int x1), .val (.int x2), .unset] [(.int x1), (.ref pf)])
      obtain ⟨w19, hg19, hv⟩ := own_bind hv
      refine own_go (own_iaload X18 C e18 V_pf hg19 (hb hby d4_20)) ?_
      show own_WP p e below _ T18 (mkF m 21 #[.val (.ref o0), .val (.int x1), .val (.int x2), .unset] [(.int w19)])
      refine own_go (fun _ => XS.istoreN X18.here hx rfl (hb hby d4_21) rfl (l' := #[.val (.ref o0), .val (.int x1), .val (.int x2), .val (.int w19)]) rfl) ?_
      exact b4_22 hw C Z0 rr hP 20 X18 e18 N K o_o0_pf o_pf_pp o_pp_pd g_o0 E_o0 F_o0_root F_o0_following F_o0_preceding F_o0_depth V_pf V_pp V_pd x1 x2 w19 hv
theorem ef4 (m : MethodId) (o0 : Nat) (x1 : Int32) (x2 : Int32) : entryFrame m #[(.ref o0), (.int x1), (.int x2)] 4 = (mkF m 0 #[.val (.ref o0), .val (.int x1), .val (.int x2), .unset] []) := by first | (simp [entryFrame, mkF, argsToLocals, Value.category]; done) | rfl
theorem pd4 : parseMethodDescriptor "(II)Z" = some ⟨[.int, .int], some .boolean⟩ := by decide +kernel
theorem pn4 : plainFor (⟨"com/example/gridfare/gridfare/engine/LoweringTree", "hang", "(II)Z"⟩ : MethodName) = true := plainFor_of_name (by first | (simp [plainName, overriddenIn]; done) | decide +kernel)
theorem rm4 (l : Launch) (Z : State) (a0 : Array Value) (hw : ∀ d ∈ tables_1, d.before a0 Z = true) (n0 : Nat) (h0 : Heap) (Z0 : n0 ≤ h0.size) {o0 : Nat} {pf : Nat} {pp : Nat} {pd : Nat} {n : Int32} {v_pf : List Int32} {v_pp : List Int32} {v_pd : List Int32} (o_o0_pf : o0 < pf) (o_pf_pp : pf < pp) (o_pp_pd : pp < pd) (g_o0 : n0 ≤ o0) (E_o0 : Exa Z h0 o0 "com/example/gridfare/gridfare/engine/LoweringTree") (F_o0_root : Fld Z h0 o0 "com/example/gridfare/gridfare/engine/LoweringTree" "root" "I" (.int n)) (F_o0_following : Fld Z h0 o0 "com/example/gridfare/gridfare/engine/LoweringTree" "following" "[I" (.ref pf)) (F_o0_preceding : Fld Z h0 o0 "com/example/gridfare/gridfare/engine/LoweringTree" "preceding" "[I" (.ref pp)) (F_o0_depth : Fld Z h0 o0 "com/example/gridfare/gridfare/engine/LoweringTree" "depth" "[I" (.ref pd)) (V_pf : own_AI Z h0 pf .int v_pf) (V_pp : own_AI Z h0 pp .int v_pp) (V_pd : own_AI Z h0 pd .int v_pd) (x1 : Int32) (x2 : Int32)  (rr : Int32 × (List Int32) × (List Int32) × (List Int32)) (hf : f4_0 n v_pf v_pp v_pd x1 x2 = some rr) :
    own_Met l Z (⟨"com/example/gridfare/gridfare/engine/LoweringTree", "hang", "(II)Z"⟩ : MethodName) prog_39_method_4_code 4 (some .boolean) [] rmR4 #[(.ref o0), (.int x1), (.int x2)] h0 (fun v h L => Fr n0 L ∧ Keep h0 h [pf, pp, pd] ∧ E4 Z h0 o0 pf pp pd n rr v h) := by
  refine own_body pn4 ?_
  intro p e s m below meth c s₁ C X e0
  exact own_cast (ef4 m o0 x1 x2) (b4_0 hw C Z0 rr (fun v h L a b c => ⟨a, b, c⟩) X e0 (Fr.nil n0) (Keep.refl h0 [pf, pp, pd]) o_o0_pf o_pf_pp o_pp_pd g_o0 E_o0 F_o0_root F_o0_following F_o0_preceding F_o0_depth V_pf V_pp V_pd x1 x2 hf)
def E0 (Z : State) (h0 : Heap)   (rr : Int32) (v : Option Value) (h : Heap) : Prop := v = some (.int rr)
def f0_188 (c_b7_root : Int32) (v_b13_b13 : List Int32) (v_b13_b22 : List Int32) (v_b13_b31 : List Int32) (x11 : Int32) (x12 : Int32) (x15 : Int32) (x16 : Int32) (t0 : Int32) : Option (Int32) := ((f4_0 c_b7_root v_b13_b13 v_b13_b22 v_b13_b31 x12 x15).bind fun rr13 => ((f4_0 c_b7_root (rr13.2.1) (rr13.2.2.1) (rr13.2.2.2) x16 x12).bind fun rr14 => ((f4_0 c_b7_root (rr14.2.1) (rr14.2.2.1) (rr14.2.2.2) x15 x16).bind fun rr15 => (if x11 = (0 : Int32) then (some (0 : Int32)) else (if t0 = (0 : Int32) then (some (0 : Int32)) else (if (rr13.1) = (0 : Int32) then (some (0 : Int32)) else (if (rr14.1) = (0 : Int32) then (some (0 : Int32)) else (if (rr15.1) = (0 : Int32) then (some (1 : Int32)) else (some (0 : Int32))))))))))
set_option maxRecDepth 65536 in
set_option maxHeartbeats 40000000 in
theorem b0_188 {p : Program} {l : Launch} {e : Env} {s : State} {m : MethodId} {args : Array Value} {below : List Frame} {meth : Method} {c : Code} {Z : State} {a0 : Array Value} {h0 : Heap} {n0 : Nat} {P : Option Value → Heap → List Loc → Prop} (hw : ∀ d ∈ tables_1, d.before a0 Z = true) (C : own_Ctx p s m meth c Z x code maxLocals ret) (Z0 : n0 ≤ h0.size)   (rr : Int32) (hP : ∀ v h L, Fr n0 L → Keep h0 h [] → E0 Z h0  rr v h → P v h L)
    {T : State} {locs : List Loc} {h : Heap} {b7 : Nat} {b13_b13 : Nat} {b13_b22 : Nat} {b13_b31 : Nat} {c_b7_root : Int32} {v_b13_b13 : List Int32} {v_b13_b22 : List Int32} {v_b13_b31 : List Int32} (X : Stand p l e room_1 s m args below meth c T locs 4 25) (e0 : T.heap = h) (N : Fr n0 locs) (K : Keep h0 h []) (o_b7_b13_b13 : b7 < b13_b13) (o_b13_b13_b13_b22 : b13_b13 < b13_b22) (o_b13_b22_b13_b31 : b13_b22 < b13_b31) (g_b7 : n0 ≤ b7) (z_b7 : h0.size ≤ b7) (E_b7 : Exa Z h b7 "com/example/gridfare/gridfare/engine/LoweringTree") (F_b7_root : Fld Z h b7 "com/example/gridfare/gridfare/engine/LoweringTree" "root" "I" (.int c_b7_root)) (F_b7_following : Fld Z h b7 "com/example/gridfare/gridfare/engine/LoweringTree" "following" "[I" (.ref b13_b13)) (F_b7_preceding : Fld Z h b7 "com/example/gridfare/gridfare/engine/LoweringTree" "preceding" "[I" (.ref b13_b22)) (F_b7_depth : Fld Z h b7 "com/example/gridfare/gridfare/engine/LoweringTree" "depth" "[I" (.ref b13_b31)) (V_b13_b13 : own_AI Z h b13_b13 .int v_b13_b13) (V_b13_b22 : own_AI Z h b13_b22 .int v_b13_b22) (V_b13_b31 : own_AI Z h b13_b31 .int v_b13_b31) (x0 : Int32) (x1 : Int32) (x2 : Int32) (x3 : Int32) (x4 : Int32) (x5 : Int32) (x6 : Int32) (x8 : Int32) (x9 : Int32) (x10 : Int32) (x11 : Int32) (x12 : Int32) (x13 : Int32) (x14 : Int32) (x15 : Int32) (x16 : Int32) (t0 : Int32) (hv : f0_188 c_b7_root v_b13_b13 v_b13_b22 v_b13_b31 x11 x12 x15 x16 t0 = some rr) :
    own_WP p e below (own_Q s P room_1.cells room_1.slots) T (mkF m 188 #[.val (.int x0), .val (.int x1), .val (.int x2), .val (.int x3), .val (.int x4), .val (.int x5), .val (.int x6), .val (.ref b7), .val (.int x8), .val (.int x9), .val (.int x10), .val (.int x11), .val (.int x12), .val (.int x13), .val (.int x14), .val (.int x15), .val (.int x16), .unset, .unset, .unset, .unset] [(.int t0)]) := by
  obtain ⟨hx, hZ, hby, hml, hown, hnm, hret, hlk⟩ := id C
  replace hown : s.vm.findClass "com/example/gridfare/gridfare/engine/LoweringTreePlantPinLaw" = some m.cls := hown
  unfold f0_188 at hv
  show own_WP p e below _ T (mkF m 188 #[.val (.int x0), .val (.int x1), .val (.int x2), .val (.int x3), .val (.int x4), .val (.int x5), .val (.int x6), .val (.ref b7), .val (.int x8), .val (.int x9), .val (.int x10), .val (.int x11), .val (.int x12), .val (.int x13), .val (.int x14), .val (.int x15), .val (.int x16), .unset, .unset, .unset, .unset] [(.int t0)])
  refine own_go (fun _ => XS.istore X.here hx rfl (hb hby at_188) rfl (l' := #[.val (.int x0), .val (.int x1), .val (.int x2), .val (.int x3), .val (.int x4), .val (.int x5), .val (.int x6), .val (.ref b7), .val (.int x8), .val (.int x9), .val (.int x10), .val (.int x11), .val (.int x12), .val (.int x13), .val (.int x14), .val (.int x15), .val (.int x16), .val (.int t0), .unset, .unset, .unset]) rfl) ?_
  show own_WP p e below _ T (mkF m 190 #[.val (.int x0), .val (.int x1), .val (.int x2), .val (.int x3), .val (.int x4), .val (.int x5), .val (.int x6), .val (.ref b7), .val (.int x8), .val (.int x9), .val (.int x10), .val (.int x11), .val (.int x12), .val (.int x13), .val (.int x14), .val (.int x15), .val (.int x16), .val (.int t0), .unset, .unset, .unset] [])
  refine own_go (fun _ => XS.aload X.here hx rfl (hb hby at_190) rfl rfl) ?_
  show own_WP p e below _ T (mkF m 192 #[.val (.int x0), .val (.int x1), .val (.int x2), .val (.int x3), .val (.int x4), .val (.int x5), .val (.int x6), .val (.ref b7), .val (.int x8), .val (.int x9), .val (.int x10), .val (.int x11), .val (.int x12), .val (.int x13), .val (.int x14), .val (.int x15), .val (.int x16), .val (.int t0), .unset, .unset, .unset] [(.ref b7)])
  refine own_go (fun _ => XS.iload X.here hx rfl (hb hby at_192) rfl) ?_
  show own_WP p e below _ T (mkF m 194 #[.val (.int x0), .val (.int x1), .val (.int x2), .val (.int x3), .val (.int x4), .val (.int x5), .val (.int x6), .val (.ref b7), .val (.int x8), .val (.int x9), .val (.int x10), .val (.int x11), .val (.int x12), .val (.int x13), .val (.int x14), .val (.int x15), .val (.int x16), .val (.int t0), .unset, .unset, .unset] [(.int x12), (.ref b7)])
  refine own_go (fun _ => XS.iload X.here hx rfl (hb hby at_194) rfl) ?_
  show own_WP p e below _ T (mkF m 196 #[.val (.int x0), .val (.int x1), .val (.int x2), .val (.int x3), .val (.int x4), .val (.int x5), .val (.int x6), .val (.ref b7), .val (.int x8), .val (.int x9), .val (.int x10), .val (.int x11), .val (.int x12), .val (.int x13), .val (.int x14), .val (.int x15), .val (.int x16), .val (.int t0), .unset, .unset, .unset] [(.int x15), (.int x12), (.ref b7)])
  obtain ⟨rr13, hf13, hv⟩ := own_bind hv
  obtain ⟨T13, v13, L13, X13, ⟨N13, K13, Q13⟩, st13⟩ := own_callV X C (a := b7) (argsL := [(.int x12), (.int x15)]) (rm4 l Z a0 hw n0 h (by have q := K.1; omega) (by omega) (by omega) (by omega) (by omega) E_b7 F_b7_root F_b7_following F_b7_preceding F_b7_depth V_b13_b13 V_b13_b22 V_b13_b31 x12 x15 rr13 hf13) (hw _ (List.mem_of_getElem? (i := 25) rfl)) (hw _ (List.mem_of_getElem? (i := 26) rfl)) (hw _ (List.mem_of_getElem? (i := 28) rfl)) (hw _ (List.mem_of_getElem? (i := 27) rfl)) (hw _ (List.mem_of_getElem? (i := 2) rfl)) (hw _ (List.mem_of_getElem? (i := 29) rfl)) (by decide) e0 E_b7 (W := 0) (pc := 196) (Ls := #[.val (.int x0), .val (.int x1), .val (.int x2), .val (.int x3), .val (.int x4), .val (.int x5), .val (.int x6), .val (.ref b7), .val (.int x8), .val (.int x9), .val (.int x10), .val (.int x11), .val (.int x12), .val (.int x13), .val (.int x14), .val (.int x15), .val (.int x16), .val (.int t0), .unset, .unset, .unset]) rfl (lenOf pd4 rfl) (rest := []) (stk := [(.int x15), (.int x12), (.ref b7)]) rfl (Nat.le_of_ble_eq_true rfl) (hb hby at_196) (by decide) (by decide) (by decide) (by decide)
  replace N := Fr.app N N13
  replace E_b7 := E_b7.keep K13
  replace F_b7_root := F_b7_root.keep K13 (ninS (own_ne (by omega)) (ninS (own_ne (by omega)) (ninS (own_ne (by omega)) nin0)))
  replace F_b7_following := F_b7_following.keep K13 (ninS (own_ne (by omega)) (ninS (own_ne (by omega)) (ninS (own_ne (by omega)) nin0)))
  replace F_b7_preceding := F_b7_preceding.keep K13 (ninS (own_ne (by omega)) (ninS (own_ne (by omega)) (ninS (own_ne (by omega)) nin0)))
  replace F_b7_depth := F_b7_depth.keep K13 (ninS (own_ne (by omega)) (ninS (own_ne (by omega)) (ninS (own_ne (by omega)) nin0)))
  clear V_b13_b13
  clear V_b13_b22
  clear V_b13_b31
  obtain ⟨rfl, V_b13_b13, V_b13_b22, V_b13_b31⟩ := Q13
  replace K := K.trans K13 (allS (Or.inr (by omega)) (allS (Or.inr (by omega)) (allS (Or.inr (by omega)) all0)))
  refine own_go st13 ?_
  show own_WP p e below _ T13 (mkF m 199 #[.val (.int x0), .val (.int x1), .val (.int x2), .val (.int x3), .val (.int x4), .val (.int x5), .val (.int x6), .val (.ref b7), .val (.int x8), .val (.int x9), .val (.int x10), .val (.int x11), .val (.int x12), .val (.int x13), .val (.int x14), .val (.int x15), .val (.int x16), .val (.int t0), .unset, .unset, .unset] [(.int (rr13.1))])
  refine own_go (fun _ => XS.istore X13.here hx rfl (hb hby at_199) rfl (l' := #[.val (.int x0), .val (.int x1), .val (.int x2), .val (.int x3), .val (.int x4), .val (.int x5), .val (.int x6), .val (.ref b7), .val (.int x8), .val (.int x9), .val (.int x10), .val (.int x11), .val (.int x12), .val (.int x13), .val (.int x14), .val (.int x15), .val (.int x16), .val (.int t0), .val (.int (rr13.1)), .unset, .unset]) rfl) ?_
  show own_WP p e below _ T13 (mkF m 201 #[.val (.int x0), .val (.int x1), .val (.int x2), .val (.int x3), .val (.int x4), .val (.int x5), .val (.int x6), .val (.ref b7), .val (.int x8), .val (.int x9), .val (.int x10), .val (.int x11), .val (.int x12), .val (.int x13), .val (.int x14), .val (.int x15), .val (.int x16), .val (.int t0), .val (.int (rr13.1)), .unset, .unset] [])
  refine own_go (fun _ => XS.aload X13.here hx rfl (hb hby at_201) rfl rfl) ?_
  show own_WP p e below _ T13 (mkF m 203 #[.val (.int x0), .val (.int x1), .val (.int x2), .val (.int x3), .val (.int x4), .val (.int x5), .val (.int x6), .val (.ref b7), .val (.int x8), .val (.int x9), .val (.int x10), .val (.int x11), .val (.int x12), .val (.int x13), .val (.int x14), .val (.int x15), .val (.int x16), .val (.int t0), .val (.int (rr13.1)), .unset, .unset] [(.ref b7)])
  refine own_go (fun _ => XS.iload X13.here hx rfl (hb hby at_203) rfl) ?_
  show own_WP p e below _ T13 (mkF m 205 #[.val (.int x0), .val (.int x1), .val (.int x2), .val (.int x3), .val (.int x4), .val (.int x5), .val (.int x6), .val (.ref b7), .val (.int x8), .val (.int x9), .val (.int x10), .val (.int x11), .val (.int x12), .val (.int x13), .val (.int x14), .val (.int x15), .val (.int x16), .val (.int t0), .val (.int (rr13.1)), .unset, .unset] [(.int x16), (.ref b7)])
  refine own_go (fun _ => XS.iload X13.here hx rfl (hb hby at_205) rfl) ?_
  show own_WP p e below _ T13 (mkF m 207 #[.val (.int x0), .val (.int x1), .val (.int x2), .val (.int x3), .val (.int x4), .val (.int x5), .val (.int x6), .val (.ref b7), .val (.int x8), .val (.int x9), .val (.int x10), .val (.int x11), .val (.int x12), .val (.int x13), .val (.int x14), .val (.int x15), .val (.int x16), .val (.int t0), .val (.int (rr13.1)), .unset, .unset] [(.int x12), (.int x16), (.ref b7)])
  obtain ⟨rr14, hf14, hv⟩ := own_bind hv
  obtain ⟨T14, v14, L14, X14, ⟨N14, K14, Q14⟩, st14⟩ := own_callV X13 C (a := b7) (argsL := [(.int x16), (.int x12)]) (rm4 l Z a0 hw n0 T13.heap (by have q := K.1; omega) (by omega) (by omega) (by omega) (by omega) E_b7 F_b7_root F_b7_following F_b7_preceding F_b7_depth V_b13_b13 V_b13_b22 V_b13_b31 x16 x12 rr14 hf14) (hw _ (List.mem_of_getElem? (i := 25) rfl)) (hw _ (List.mem_of_getElem? (i := 26) rfl)) (hw _ (List.mem_of_getElem? (i := 28) rfl)) (hw _ (List.mem_of_getElem? (i := 27) rfl)) (hw _ (List.mem_of_getElem? (i := 2) rfl)) (hw _ (List.mem_of_getElem? (i := 29) rfl)) (by decide) (rfl : T13.heap = T13.heap) E_b7 (W := 0) (pc := 207) (Ls := #[.val (.int x0), .val (.int x1), .val (.int x2), .val (.int x3), .val (.int x4), .val (.int x5), .val (.int x6), .val (.ref b7), .val (.int x8), .val (.int x9), .val (.int x10), .val (.int x11), .val (.int x12), .val (.int x13), .val (.int x14), .val (.int x15), .val (.int x16), .val (.int t0), .val (.int (rr13.1)), .unset, .unset]) rfl (lenOf pd4 rfl) (rest := []) (stk := [(.int x12), (.int x16), (.ref b7)]) rfl (Nat.le_of_ble_eq_true rfl) (hb hby at_207) (by decide) (by decide) (by decide) (by decide)
  replace N := Fr.app N N14
  replace E_b7 := E_b7.keep K14
  replace F_b7_root := F_b7_root.keep K14 (ninS (own_ne (by omega)) (ninS (own_ne (by omega)) (ninS (own_ne (by omega)) nin0)))
  replace F_b7_following := F_b7_following.keep K14 (ninS (own_ne (by omega)) (ninS (own_ne (by omega)) (ninS (own_ne (by omega)) nin0)))
  replace F_b7_preceding := F_b7_preceding.keep K14 (ninS (own_ne (by omega)) (ninS (own_ne (by omega)) (ninS (own_ne (by omega)) nin0)))
  replace F_b7_depth := F_b7_depth.keep K14 (ninS (own_ne (by omega)) (ninS (own_ne (by omega)) (ninS (own_ne (by omega)) nin0)))
  clear V_b13_b13
  clear V_b13_b22
  clear V_b13_b31
  obtain ⟨rfl, V_b13_b13, V_b13_b22, V_b13_b31⟩ := Q14
  replace K := K.trans K14 (allS (Or.inr (by omega)) (allS (Or.inr (by omega)) (allS (Or.inr (by omega)) all0)))
  refine own_go st14 ?_
  show own_WP p e below _ T14 (mkF m 210 #[.val (.int x0), .val (.int x1), .val (.int x2), .val (.int x3), .val (.int x4), .val (.int x5), .val (.int x6), .val (.ref b7), .val (.int x8), .val (.int x9), .val (.int x10), .val (.int x11), .val (.int x12), .val (.int x13), .val (.int x14), .val (.int x15), .val (.int x16), .val (.int t0), .val (.int (rr13.1)), .unset, .unset] [(.int (rr14.1))])
  refine own_go (fun _ => XS.istore X14.here hx rfl (hb hby at_210) rfl (l' := #[.val (.int x0), .val (.int x1), .val (.int x2), .val (.int x3), .val (.int x4), .val (.int x5), .val (.int x6), .val (.ref b7), .val (.int x8), .val (.int x9), .val (.int x10), .val (.int x11), .val (.int x12), .val (.int x13), .val (.int x14), .val (.int x15), .val (.int x16), .val (.int t0), .val (.int (rr13.1)), .val (.int (rr14.1)), .unset]) rfl) ?_
  show own_WP p e below _ T14 (mkF m 212 #[.val (.int x0), .val (.int x1), .val (.int x2), .val (.int x3), .val (.int x4), .val (.int x5), .val (.int x6), .val (.ref b7), .val (.int x8), .val (.int x9), .val (.int x10), .val (.int x11), .val (.int x12), .val (.int x13), .val (.int x14), .val (.int x15), .val (.int x16), .val (.int t0), .val (.int (rr13.1)), .val (.int (rr14.1)), .unset] [])
  refine own_go (fun _ => XS.aload X14.here hx rfl (hb hby at_212) rfl rfl) ?_
  show own_WP p e below _ T14 (mkF m 214 #[.val (.int x0), .val (.int x1), .val (.int x2), .val (.int x3), .val (.int x4), .val (.int x5), .val (.int x6), .val (.ref b7), .val (.int x8), .val (.int x9), .val (.int x10), .val (.int x11), .val (.int x12), .val (.int x13), .val (.int x14), .val (.int x15), .val (.int x16), .val (.int t0), .val (.int (rr13.1)), .val (.int (rr14.1)), .unset] [(.ref b7)])
  refine own_go (fun _ => XS.iload X14.here hx rfl (hb hby at_214) rfl) ?_
  show own_WP p e below _ T14 (mkF m 216 #[.val (.int x0), .val (.int x1), .val (.int x2), .val (.int x3), .val (.int x4), .val (.int x5), .val (.int x6), .val (.ref b7), .val (.int x8), .val (.int x9), .val (.int x10), .val (.int x11), .val (.int x12), .val (.int x13), .val (.int x14), .val (.int x15), .val (.int x16), .val (.int t0), .val (.int (rr13.1)), .val (.int (rr14.1)), .unset] [(.int x15), (.ref b7)])
  refine own_go (fun _ => XS.iload X14.here hx rfl (hb hby at_216) rfl) ?_
  show own_WP p e below _ T14 (mkF m 218 #[.val (.int x0), .val (.int x1), .val (.int x2), .val (.int x3), .val (.int x4), .val (.int x5), .val (.int x6), .val (.ref b7), .val (.int x8), .val (.int x9), .val (.int x10), .val (.int x11), .val (.int x12), .val (.int x13), .val (.int x14), .val (.int x15), .val (.int x16), .val (.int t0), .val (.int (rr13.1)), .val (.int (rr14.1)), .unset] [(.int x16), (.int x15), (.ref b7)])
  obtain ⟨rr15, hf15, hv⟩ := own_bind hv
  obtain ⟨T15, v15, L15, X15, ⟨N15, K15, Q15⟩, st15⟩ := own_callV X14 C (a := b7) (argsL := [(.int x15), (.int x16)]) (rm4 l Z a0 hw n0 T14.heap (by have q := K.1; omega) (by omega) (by omega) (by omega) (by omega) E_b7 F_b7_root F_b7_following F_b7_preceding F_b7_depth V_b13_b13 V_b13_b22 V_b13_b31 x15 x16 rr15 hf15) (hw _ (List.mem_of_getElem? (i := 25) rfl)) (hw _ (List.mem_of_getElem? (i := 26) rfl)) (hw _ (List.mem_of_getElem? (i := 28) rfl)) (hw _ (List.mem_of_getElem? (i := 27) rfl)) (hw _ (List.mem_of_getElem? (i := 2) rfl)) (hw _ (List.mem_of_getElem? (i := 29) rfl)) (by decide) (rfl : T14.heap = T14.heap) E_b7 (W := 0) (pc := 218) (Ls := #[.val (.int x0), .val (.int x1), .val (.int x2), .val (.int x3), .val (.int x4), .val (.int x5), .val (.int x6), .val (.ref b7), .val (.int x8), .val (.int x9), .val (.int x10), .val (.int x11), .val (.int x12), .val (.int x13), .val (.int x14), .val (.int x15), .val (.int x16), .val (.int t0), .val (.int (rr13.1)), .val (.int (rr14.1)), .unset]) rfl (lenOf pd4 rfl) (rest := []) (stk := [(.int x16), (.int x15), (.ref b7)]) rfl (Nat.le_of_ble_eq_true rfl) (hb hby at_218) (by decide) (by decide) (by decide) (by decide)
  replace N := Fr.app N N15
  replace E_b7 := E_b7.keep K15
  replace F_b7_root := F_b7_root.keep K15 (ninS (own_ne (by omega)) (ninS (own_ne (by omega)) (ninS (own_ne (by omega)) nin0)))
  replace F_b7_following := F_b7_following.keep K15 (ninS (own_ne (by omega)) (ninS (own_ne (by omega)) (ninS (own_ne (by omega)) nin0)))
  replace F_b7_preceding := F_b7_preceding.keep K15 (ninS (own_ne (by omega)) (ninS (own_ne (by omega)) (ninS (own_ne (by omega)) nin0)))
  replace F_b7_depth := F_b7_depth.keep K15 (ninS (own_ne (by omega)) (ninS (own_ne (by omega)) (ninS (own_ne (by omega)) nin0)))
  clear V_b13_b13
  clear V_b13_b22
  clear V_b13_b31
  obtain ⟨rfl, V_b13_b13, V_b13_b22, V_b13_b31⟩ := Q15
  replace K := K.trans K15 (allS (Or.inr (by omega)) (allS (Or.inr (by omega)) (allS (Or.inr (by omega)) all0)))
  refine own_go st15 ?_
  show own_WP p e below _ T15 (mkF m 221 #[.val (.int x0), .val (.int x1), .val (.int x2), .val (.int x3), .val (.int x4), .val (.int x5), .val (.int x6), .val (.ref b7), .val (.int x8), .val (.int x9), .val (.int x10), .val (.int x11), .val (.int x12), .val (.int x13), .val (.int x14), .val (.int x15), .val (.int x16), .val (.int t0), .val (.int (rr13.1)), .val (.int (rr14.1)), .unset] [(.int (rr15.1))])
  refine own_go (fun _ => XS.istore X15.here hx rfl (hb hby at_221) rfl (l' := #[.val (.int x0), .val (.int x1), .val (.int x2), .val (.int x3), .val (.int x4), .val (.int x5), .val (.int x6), .val (.ref b7), .val (.int x8), .val (.int x9), .val (.int x10), .val (.int x11), .val (.int x12), .val (.int x13), .val (.int x14), .val (.int x15), .val (.int x16), .val (.int t0), .val (.int (rr13.1)), .val (.int (rr14.1)), .val (.int (rr15.1))]) rfl) ?_
  show own_WP p e below _ T15 (mkF m 223 #[.val (.int x0), .val (.int x1), .val (.int x2), .val (.int x3), .val (.int x4), .val (.int x5), .val (.int x6), .val (.ref b7), .val (.int x8), .val (.int x9), .val (.int x10), .val (.int x11), .val (.int x12), .val (.int x13), .val (.int x14), .val (.int x15), .val (.int x16), .val (.int t0), .val (.int (rr13.1)), .val (.int (rr14.1)), .val (.int (rr15.1))] [])
  refine own_go (fun _ => XS.iload X15.here hx rfl (hb hby at_223) rfl) ?_
  show own_WP p e below _ T15 (mkF m 225 #[.val (.int x0), .val (.int x1), .val (.int x2), .val (.int x3), .val (.int x4), .val (.int x5), .val (.int x6), .val (.ref b7), .val (.int x8), .val (.int x9), .val (.int x10), .val (.int x11), .val (.int x12), .val (.int x13), .val (.int x14), .val (.int x15), .val (.int x16), .val (.int t0), .val (.int (rr13.1)), .val (.int (rr14.1)), .val (.int (rr15.1))] [(.int x11)])
  by_cases h225 : x11 = (0 : Int32)
  · replace hv := (if_pos h225).symm.trans hv
    refine own_go (fun _ => XS.ifYes X15.here hx rfl (pc0 := 225) (pc' := 252) rfl (hb hby at_225) rfl (XT.i0_eq_t h225) (by decide) (by decide)) ?_
    show own_WP p e below _ T15 (mkF m 252 #[.val (.int x0), .val (.int x1), .val (.int x2), .val (.int x3), .val (.int x4), .val (.int x5), .val (.int x6), .val (.ref b7), .val (.int x8), .val (.int x9), .val (.int x10), .val (.int x11), .val (.int x12), .val (.int x13), .val (.int x14), .val (.int x15), .val (.int x16), .val (.int t0), .val (.int (rr13.1)), .val (.int (rr14.1)), .val (.int (rr15.1))] [])
    refine own_go (fun _ => XS.iconst X15.here hx rfl (hb hby at_252)) ?_
    show own_WP p e below _ T15 (mkF m 253 #[.val (.int x0), .val (.int x1), .val (.int x2), .val (.int x3), .val (.int x4), .val (.int x5), .val (.int x6), .val (.ref b7), .val (.int x8), .val (.int x9), .val (.int x10), .val (.int x11), .val (.int x12), .val (.int x13), .val (.int x14), .val (.int x15), .val (.int x16), .val (.int t0), .val (.int (rr13.1)), .val (.int (rr14.1)), .val (.int (rr15.1))] [(.int (0 : Int32))])
    obtain rfl := Option.some.inj hv
    exact own_retN X15 C (by simp) (hb hby at_253) (hP _ _ _ N K rfl) (by decide) (by decide)
  · replace hv := (if_neg h225).symm.trans hv
    refine own_go (fun _ => XS.ifNo X15.here hx rfl (hb hby at_225) rfl (XT.i0_eq_f h225)) ?_
    show own_WP p e below _ T15 (mkF m 228 #[.val (.int x0), .val (.int x1), .val (.int x2), .val (.int x3), .val (.int x4), .val (.int x5), .val (.int x6), .val (.ref b7), .val (.int x8), .val (.int x9), .val (.int x10), .val (.int x11), .val (.int x12), .val (.int x13), .val (.int x14), .val (.int x15), .val (.int x16), .val (.int t0), .val (.int (rr13.1)), .val (.int (rr14.1)), .val (.int (rr15.1))] [])
    refine own_go (fun _ => XS.iload X15.here hx rfl (hb hby at_228) rfl) ?_
    show own_WP p e below _ T15 (mkF m 230 #[.val (.int x0), .val (.int x1), .val (.int x2), .val (.int x3), .val (.int x4), .val (.int x5), .val (.int x6), .val (.ref b7), .val (.int x8), .val (.int x9), .val (.int x10), .val (.int x11), .val (.int x12), .val (.int x13), .val (.int x14), .val (.int x15), .val (.int x16), .val (.int t0), .val (.int (rr13.1)), .val (.int (rr14.1)), .val (.int (rr15.1))] [(.int t0)])
    by_cases h230 : t0 = (0 : Int32)
    · replace hv := (if_pos h230).symm.trans hv
      refine own_go (fun _ => XS.ifYes X15.here hx rfl (pc0 := 230) (pc' := 252) rfl (hb hby at_230) rfl (XT.i0_eq_t h230) (by decide) (by decide)) ?_
      show own_WP p e below _ T15 (mkF m 252 #[.val (.int x0), .val (.int x1), .val (.int x2), .val (.int x3), .val (.int x4), .val (.int x5), .val (.int x6), .val (.ref b7), .val (.int x8), .val (.int x9), .val (.int x10), .val (.int x11), .val (.int x12), .val (.int x13), .val (.int x14), .val (.int x15), .val (.int x16), .val (.int t0), .val (.int (rr13.1)), .val (.int (rr14.1)), .val (.int (rr15.1))] [])
      refine own_go (fun _ => XS.iconst X15.here hx rfl (hb hby at_252)) ?_
      show own_WP p e below _ T15 (mkF m 253 #[.val (.int x0), .val (.int x1), .val (.int x2), .val (.int x3), .val (.int x4), .val (.int x5), .val (.int x6), .val (.ref b7), .val (.int x8), .val (.int x9), .val (.int x10), .val (.int x11), .val (.int x12), .val (.int x13), .val (.int x14), .val (.int x15), .val (.int x16), .val (.int t0), .val (.int (rr13.1)), .val (.int (rr14.1)), .val (.int (rr15.1))] [(.int (0 : Int32))])
      obtain rfl := Option.some.inj hv
      exact own_retN X15 C (by simp) (hb hby at_253) (hP _ _ _ N K rfl) (by decide) (by decide)
    · replace hv := (if_neg h230).symm.trans hv
      refine own_go (fun _ => XS.ifNo X15.here hx rfl (hb hby at_230) rfl (XT.i0_eq_f h230)) ?_
      show own_WP p e below _ T15 (mkF m 233 #[.val (.int x0), .val (.int x1), .val (.int x2), .val (.int x3), .val (.int x4), .val (.int x5), .val (.int x6), .val (.ref b7), .val (.int x8), .val (.int x9), .val (.int x10), .val (.int x11), .val (.int x12), .val (.int x13), .val (.int x14), .val (.int x15), .val (.int x16), .val (.int t0), .val (.int (rr13.1)), .val (.int (rr14.1)), .val (.int (rr15.1))] [])
      refine own_go (fun _ => XS.iload X15.here hx rfl (hb hby at_233) rfl) ?_
      show own_WP p e below _ T15 (mkF m 235 #[.val (.int x0), .val (.int x1), .val (.int x2), .val (.int x3), .val (.int x4), .val (.int x5), .val (.int x6), .val (.ref b7), .val (.int x8), .val (.int x9), .val (.int x10), .val (.int x11), .val (.int x12), .val (.int x13), .val (.int x14), .val (.int x15), .val (.int x16), .val (.int t0), .val (.int (rr13.1)), .val (.int (rr14.1)), .val (.int (rr15.1))] [(.int (rr13.1))])
      by_cases h235 : (rr13.1) = (0 : Int32)
      · replace hv := (if_pos h235).symm.trans hv
        refine own_go (fun _ => XS.ifYes X15.here hx rfl (pc0 := 235) (pc' := 252) rfl (hb hby at_235) rfl (XT.i0_eq_t h235) (by decide) (by decide)) ?_
        show own_WP p e below _ T15 (mkF m 252 #[.val (.int x0), .val (.int x1), .val (.int x2), .val (.int x3), .val (.int x4), .val (.int x5), .val (.int x6), .val (.ref b7), .val (.int x8), .val (.int x9), .val (.int x10), .val (.int x11), .val (.int x12), .val (.int x13), .val (.int x14), .val (.int x15), .val (.int x16), .val (.int t0), .val (.int (rr13.1)), .val (.int (rr14.1)), .val (.int (rr15.1))] [])
        refine own_go (fun _ => XS.iconst X15.here hx rfl (hb hby at_252)) ?_
        show own_WP p e below _ T15 (mkF m 253 #[.val (.int x0), .val (.int x1), .val (.int x2), .val (.int x3), .val (.int x4), .val (.int x5), .val (.int x6), .val (.ref b7), .val (.int x8), .val (.int x9), .val (.int x10), .val (.int x11), .val (.int x12), .val (.int x13), .val (.int x14), .val (.int x15), .val (.int x16), .val (.int t0), .val (.int (rr13.1)), .val (.int (rr14.1)), .val (.int (rr15.1))] [(.int (0 : Int32))])
        obtain rfl := Option.some.inj hv
        exact own_retN X15 C (by simp) (hb hby at_253) (hP _ _ _ N K rfl) (by decide) (by decide)
      · replace hv := (if_neg h235).symm.trans hv
        refine own_go (fun _ => XS.ifNo X15.here hx rfl (hb hby at_235) rfl (XT.i0_eq_f h235)) ?_
        show own_WP p e below _ T15 (mkF m 238 #[.val (.int x0), .val (.int x1), .val (.int x2), .val (.int x3), .val (.int x4), .val (.int x5), .val (.int x6), .val (.ref b7), .val (.int x8), .val (.int x9), .val (.int x10), .val (.int x11), .val (.int x12), .val (.int x13), .val (.int x14), .val (.int x15), .val (.int x16), .val (.int t0), .val (.int (rr13.1)), .val (.int (rr14.1)), .val (.int (rr15.1))] [])
        refine own_go (fun _ => XS.iload X15.here hx rfl (hb hby at_238) rfl) ?_
        show own_WP p e below _ T15 (mkF m 240 #[.val (.int x0), .val (.int x1), .val (.int x2), .val (.int x3), .val (.int x4), .val (.int x5), .val (.int x6), .val (.ref b7), .val (.int x8), .val (.int x9), .val (.int x10), .val (.int x11), .val (.int x12), .val (.int x13), .val (.int x14), .val (.int x15), .val (.int x16), .val (.int t0), .val (.int (rr13.1)), .val (.int (rr14.1)), .val (.int (rr15.1))] [(.int (rr14.1))])
        by_cases h240 : (rr14.1) = (0 : Int32)
        · replace hv := (if_pos h240).symm.trans hv
          refine own_go (fun _ => XS.ifYes X15.here hx rfl (pc0 := 240) (pc' := 252) rfl (hb hby at_240) rfl (XT.i0_eq_t h240) (by decide) (by decide)) ?_
          show own_WP p e below _ T15 (mkF m 252 #[.val (.int x0), .val (.int x1), .val (.int x2), .val (.int x3), .val (.int x4), .val (.int x5), .val (.int x6), .val (.ref b7), .val (.int x8), .val (.int x9), .val (.int x10), .val (.int x11), .val (.int x12), .val (.int x13), .val (.int x14), .val (.int x15), .val (.int x16), .val (.int t0), .val (.int (rr13.1)), .val (.int (rr14.1)), .val (.int (rr15.1))] [])
          refine own_go (fun _ => XS.iconst X15.here hx rfl (hb hby at_252)) ?_
          show own_WP p e below _ T15 (mkF m 253 #[.val (.int x0), .val (.int x1), .val (.int x2), .val (.int x3), .val (.int x4), .val (.int x5), .val (.int x6), .val (.ref b7), .val (.int x8), .val (.int x9), .val (.int x10), .val (.int x11), .val (.int x12), .val (.int x13), .val (.int x14), .val (.int x15), .val (.int x16), .val (.int t0), .val (.int (rr13.1)), .val (.int (rr14.1)), .val (.int (rr15.1))] [(.int (0 : Int32))])
          obtain rfl := Option.some.inj hv
          exact own_retN X15 C (by simp) (hb hby at_253) (hP _ _ _ N K rfl) (by decide) (by decide)
        · replace hv := (if_neg h240).symm.trans hv
          refine own_go (fun _ => XS.ifNo X15.here hx rfl (hb hby at_240) rfl (XT.i0_eq_f h240)) ?_
          show own_WP p e below _ T15 (mkF m 243 #[.val (.int x0), .val (.int x1), .val (.int x2), .val (.int x3), .val (.int x4), .val (.int x5), .val (.int x6), .val (.ref b7), .val (.int x8), .val (.int x9), .val (.int x10), .val (.int x11), .val (.int x12), .val (.int x13), .val (.int x14), .val (.int x15), .val (.int x16), .val (.int t0), .val (.int (rr13.1)), .val (.int (rr14.1)), .val (.int (rr15.1))] [])
          refine own_go (fun _ => XS.iload X15.here hx rfl (hb hby at_243) rfl) ?_
          show own_WP p e below _ T15 (mkF m 245 #[.val (.int x0), .val (.int x1), .val (.int x2), .val (.int x3), .val (.int x4), .val (.int x5), .val (.int x6), .val (.ref b7), .val (.int x8), .val (.int x9), .val (.int x10), .val (.int x11), .val (.int x12), .val (.int x13), .val (.int x14), .val (.int x15), .val (.int x16), .val (.int t0), .val (.int (rr13.1)), .val (.int (rr14.1)), .val (.int (rr15.1))] [(.int (rr15.1))])
          by_cases h245 : (rr15.1) = (0 : Int32)
          · replace hv := (if_pos h245).symm.trans hv
            refine own_go (fun _ => XS.ifNo X15.here hx rfl (hb hby at_245) rfl (XT.i0_ne_f h245)) ?_
            show own_WP p e below _ T15 (mkF m 248 #[.val (.int x0), .val (.int x1), .val (.int x2), .val (.int x3), .val (.int x4), .val (.int x5), .val (.int x6), .val (.ref b7), .val (.int x8), .val (.int x9), .val (.int x10), .val (.int x11), .val (.int x12), .val (.int x13), .val (.int x14), .val (.int x15), .val (.int x16), .val (.int t0), .val (.int (rr13.1)), .val (.int (rr14.1)), .val (.int (rr15.1))] [])
            refine own_go (fun _ => XS.iconst X15.here hx rfl (hb hby at_248)) ?_
            show own_WP p e below _ T15 (mkF m 249 #[.val (.int x0), .val (.int x1), .val (.int x2), .val (.int x3), .val (.int x4), .val (.int x5), .val (.int x6), .val (.ref b7), .val (.int x8), .val (.int x9), .val (.int x10), .val (.int x11), .val (.int x12), .val (.int x13), .val (.int x14), .val (.int x15), .val (.int x16), .val (.int t0), .val (.int (rr13.1)), .val (.int (rr14.1)), .val (.int (rr15.1))] [(.int (1 : Int32))])
            refine own_go (fun _ => XS.goto X15.here hx rfl (pc0 := 249) (pc' := 253) rfl (hb hby at_249) (by decide) (by decide)) ?_
            show own_WP p e below _ T15 (mkF m 253 #[.val (.int x0), .val (.int x1), .val (.int x2), .val (.int x3), .val (.int x4), .val (.int x5), .val (.int x6), .val (.ref b7), .val (.int x8), .val (.int x9), .val (.int x10), .val (.int x11), .val (.int x12), .val (.int x13), .val (.int x14), .val (.int x15), .val (.int x16), .val (.int t0), .val (.int (rr13.1)), .val (.int (rr14.1)), .val (.int (rr15.1))] [(.int (1 : Int32))])
            obtain rfl := Option.some.inj hv
            exact own_retN X15 C (by simp) (hb hby at_253) (hP _ _ _ N K rfl) (by decide) (by decide)
          · replace hv := (if_neg h245).symm.trans hv
            refine own_go (fun _ => XS.ifYes X15.here hx rfl (pc0 := 245) (pc' := 252) rfl (hb hby at_245) rfl (XT.i0_ne_t h245) (by decide) (by decide)) ?_
            show own_WP p e below _ T15 (mkF m 252 #[.val (.int x0), .val (.int x1), .val (.int x2), .val (.int x3), .val (.int x4), .val (.int x5), .val (.int x6), .val (.ref b7), .val (.int x8), .val (.int x9), .val (.int x10), .val (.int x11), .val (.int x12), .val (.int x13), .val (.int x14), .val (.int x15), .val (.int x16), .val (.int t0), .val (.int (rr13.1)), .val (.int (rr14.1)), .val (.int (rr15.1))] [])
            refine own_go (fun _ => XS.iconst X15.here hx rfl (hb hby at_252)) ?_
            show own_WP p e below _ T15 (mkF m 253 #[.val (.int x0), .val (.int x1), .val (.int x2), .val (.int x3), .val (.int x4), .val (.int x5), .val (.int x6), .val (.ref b7), .val (.int x8), .val (.int x9), .val (.int x10), .val (.int x11), .val (.int x12), .val (.int x13), .val (.int x14), .val (.int x15), .val (.int x16), .val (.int t0), .val (.int (rr13.1)), .val (.int (rr14.1)), .val (.int (rr15.1))] [(.int (0 : Int32))])
            obtain rfl := Option.some.inj hv
            exact own_retN X15 C (by simp) (hb hby at_253) (hP _ _ _ N K rfl) (by decide) (by decide)
def f0_187 (c_b7_root : Int32) (v_b13_b13 : List Int32) (v_b13_b22 : List Int32) (v_b13_b31 : List Int32) (x11 : Int32) (x12 : Int32) (x15 : Int32) (x16 : Int32) : Option (Int32) := (f0_188 c_b7_root v_b13_b13 v_b13_b22 v_b13_b31 x11 x12 x15 x16 (0 : Int32))
set_option maxRecDepth 65536 in
set_option maxHeartbeats 40000000 in
theorem b0_187 {p : Program} {l : Launch} {e : Env} {s : State} {m : MethodId} {args : Array Value} {below : List Frame} {meth : Method} {c : Code} {Z : State} {a0 : Array Value} {h0 : Heap} {n0 : Nat} {P : Option Value → Heap → List Loc → Prop} (hw : ∀ d ∈ tables_1, d.before a0 Z = true) (C : own_Ctx p s m meth c Z x code maxLocals ret) (Z0 : n0 ≤ h0.size)   (rr : Int32) (hP : ∀ v h L, Fr n0 L → Keep h0 h [] → E0 Z h0  rr v h → P v h L)
    {T : State} {locs : List Loc} {h : Heap} {b7 : Nat} {b13_b13 : Nat} {b13_b22 : Nat} {b13_b31 : Nat} {c_b7_root : Int32} {v_b13_b13 : List Int32} {v_b13_b22 : List Int32} {v_b13_b31 : List Int32} (X : Stand p l e room_1 s m args below meth c T locs 4 25) (e0 : T.heap = h) (N : Fr n0 locs) (K : Keep h0 h []) (o_b7_b13_b13 : b7 < b13_b13) (o_b13_b13_b13_b22 : b13_b13 < b13_b22) (o_b13_b22_b13_b31 : b13_b22 < b13_b31) (g_b7 : n0 ≤ b7) (z_b7 : h0.size ≤ b7) (E_b7 : Exa Z h b7 "com/example/gridfare/gridfare/engine/LoweringTree") (F_b7_root : Fld Z h b7 "com/example/gridfare/gridfare/engine/LoweringTree" "root" "I" (.int c_b7_root)) (F_b7_following : Fld Z h b7 "com/example/gridfare/gridfare/engine/LoweringTree" "following" "[I" (.ref b13_b13)) (F_b7_preceding : Fld Z h b7 "com/example/gridfare/gridfare/engine/LoweringTree" "preceding" "[I" (.ref b13_b22)) (F_b7_depth : Fld Z h b7 "com/example/gridfare/gridfare/engine/LoweringTree" "depth" "[I" (.ref b13_b31)) (V_b13_b13 : own_AI Z h b13_b13 .int v_b13_b13) (V_b13_b22 : own_AI Z h b13_b22 .int v_b13_b22) (V_b13_b31 : own_AI Z h b13_b31 .int v_b13_b31) (x0 : Int32) (x1 : Int32) (x2 : Int32) (x3 : Int32) (x4 : Int32) (x5 : Int32) (x6 : Int32) (x8 : Int32) (x9 : Int32) (x10 : Int32) (x11 : Int32) (x12 : Int32) (x13 : Int32) (x14 : Int32) (x15 : Int32) (x16 : Int32) (hv : f0_187 c_b7_root v_b13_b13 v_b13_b22 v_b13_b31 x11 x12 x15 x16 = some rr) :
    own_WP p e below (own_Q s P room_1.cells room_1.slots) T (mkF m 187 #[.val (.int x0), .val (.int x1), .val (.int x2), .val (.int x3), .val (.int x4), .val (.int x5), .val (.int x6), .val (.ref b7), .val (.int x8), .val (.int x9), .val (.int x10), .val (.int x11), .val (.int x12), .val (.int x13), .val (.int x14), .val (.int x15), .val (.int x16), .unset, .unset, .unset, .unset] []) := by
  obtain ⟨hx, hZ, hby, hml, hown, hnm, hret, hlk⟩ := id C
  replace hown : s.vm.findClass "com/example/gridfare/gridfare/engine/LoweringTreePlantPinLaw" = some m.cls := hown
  unfold f0_187 at hv
  show own_WP p e below _ T (mkF m 187 #[.val (.int x0), .val (.int x1), .val (.int x2), .val (.int x3), .val (.int x4), .val (.int x5), .val (.int x6), .val (.ref b7), .val (.int x8), .val (.int x9), .val (.int x10), .val (.int x11), .val (.int x12), .val (.int x13), .val (.int x14), .val (.int x15), .val (.int x16), .unset, .unset, .unset, .unset] [])
  refine own_go (fun _ => XS.iconst X.here hx rfl (hb hby at_187)) ?_
  exact b0_188 hw C Z0 rr hP X e0 N K o_b7_b13_b13 o_b13_b13_b13_b22 o_b13_b22_b13_b31 g_b7 z_b7 E_b7 F_b7_root F_b7_following F_b7_preceding F_b7_depth V_b13_b13 V_b13_b22 V_b13_b31 x0 x1 x2 x3 x4 x5 x6 x8 x9 x10 x11 x12 x13 x14 x15 x16 (0 : Int32) hv
def f0_87 (c_b7_root : Int32) (v_b13_b13 : List Int32) (v_b13_b22 : List Int32) (v_b13_b31 : List Int32) (x3 : Int32) (x4 : Int32) (x5 : Int32) (x6 : Int32) (x8 : Int32) (x11 : Int32) : Option (Int32) := (if x6 = (0 : Int32) then none else (if (x6 - (1 : Int32)) = (0 : Int32) then none else (own_let ((1 : Int32) + ((x4 &&& (2147483647 : Int32)) % (x6 - (1 : Int32)))) fun y8 => (if (x6 - (2 : Int32)) = (0 : Int32) then none else (if (x6 - (1 : Int32)) = (0 : Int32) then none else (own_let ((1 : Int32) + ((y8 + ((x5 &&& (2147483647 : Int32)) % (x6 - (2 : Int32)))) % (x6 - (1 : Int32)))) fun y9 => (if x6 = (0 : Int32) then none else (own_let ((((x3 &&& (2147483647 : Int32)) % x6) + y8) % x6) fun y10 => (if x6 = (0 : Int32) then none else (own_let ((((x3 &&& (2147483647 : Int32)) % x6) + y9) % x6) fun y11 => ((f5_0 v_b13_b31 x8).bind fun rr12 => (if rr12 = (0 : Int32) then (f0_187 c_b7_root v_b13_b13 v_b13_b22 v_b13_b31 x11 ((x3 &&& (2147483647 : Int32)) % x6) y10 y11) else ((f5_0 v_b13_b31 (0 : Int32)).bind fun rr16 => (if rr16 = (0 : Int32) then (f0_187 c_b7_root v_b13_b13 v_b13_b22 v_b13_b31 x11 ((x3 &&& (2147483647 : Int32)) % x6) y10 y11) else ((f5_0 v_b13_b31 (x6 - (1 : Int32))).bind fun rr17 => (if rr17 = (0 : Int32) then (f0_187 c_b7_root v_b13_b13 v_b13_b22 v_b13_b31 x11 ((x3 &&& (2147483647 : Int32)) % x6) y10 y11) else (f0_188 c_b7_root v_b13_b13 v_b13_b22 v_b13_b31 x11 ((x3 &&& (2147483647 : Int32)) % x6) y10 y11 (1 : Int32))))))))))))))))))
set_option maxRecDepth 65536 in
set_option maxHeartbeats 40000000 in
theorem b0_87 {p : Program} {l : Launch} {e : Env} {s : State} {m : MethodId} {args : Array Value} {below : List Frame} {meth : Method} {c : Code} {Z : State} {a0 : Array Value} {h0 : Heap} {n0 : Nat} {P : Option Value → Heap → List Loc → Prop} (hw : ∀ d ∈ tables_1, d.before a0 Z = true) (C : own_Ctx p s m meth c Z x code maxLocals ret) (Z0 : n0 ≤ h0.size)   (rr : Int32) (hP : ∀ v h L, Fr n0 L → Keep h0 h [] → E0 Z h0  rr v h → P v h L)
    {T : State} {locs : List Loc} {h : Heap} {b7 : Nat} {b13_b13 : Nat} {b13_b22 : Nat} {b13_b31 : Nat} {c_b7_root : Int32} {v_b13_b13 : List Int32} {v_b13_b22 : List Int32} {v_b13_b31 : List Int32} (X : Stand p l e room_1 s m args below meth c T locs 4 25) (e0 : T.heap = h) (N : Fr n0 locs) (K : Keep h0 h []) (o_b7_b13_b13 : b7 < b13_b13) (o_b13_b13_b13_b22 : b13_b13 < b13_b22) (o_b13_b22_b13_b31 : b13_b22 < b13_b31) (g_b7 : n0 ≤ b7) (z_b7 : h0.size ≤ b7) (E_b7 : Exa Z h b7 "com/example/gridfare/gridfare/engine/LoweringTree") (F_b7_root : Fld Z h b7 "com/example/gridfare/gridfare/engine/LoweringTree" "root" "I" (.int c_b7_root)) (F_b7_following : Fld Z h b7 "com/example/gridfare/gridfare/engine/LoweringTree" "following" "[I" (.ref b13_b13)) (F_b7_preceding : Fld Z h b7 "com/example/gridfare/gridfare/engine/LoweringTree" "preceding" "[I" (.ref b13_b22)) (F_b7_depth : Fld Z h b7 "com/example/gridfare/gridfare/engine/LoweringTree" "depth" "[I" (.ref b13_b31)) (V_b13_b13 : own_AI Z h b13_b13 .int v_b13_b13) (V_b13_b22 : own_AI Z h b13_b22 .int v_b13_b22) (V_b13_b31 : own_AI Z h b13_b31 .int v_b13_b31) (x0 : Int32) (x1 : Int32) (x2 : Int32) (x3 : Int32) (x4 : Int32) (x5 : Int32) (x6 : Int32) (x8 : Int32) (x9 : Int32) (x10 : Int32) (x11 : Int32) (hv : f0_87 c_b7_root v_b13_b13 v_b13_b22 v_b13_b31 x3 x4 x5 x6 x8 x11 = some rr) :
    own_WP p e below (own_Q s P room_1.cells room_1.slots) T (mkF m 87 #[.val (.int x0), .val (.int x1), .val (.int x2), .val (.int x3), .val (.int x4), .val (.int x5), .val (.int x6), .val (.ref b7), .val (.int x8), .val (.int x9), .val (.int x10), .val (.int x11), .unset, .unset, .unset, .unset, .unset, .unset, .unset, .unset, .unset] []) := by
  obtain ⟨hx, hZ, hby, hml, hown, hnm, hret, hlk⟩ := id C
  replace hown : s.vm.findClass "com/example/gridfare/gridfare/engine/LoweringTreePlantPinLaw" = some m.cls := hown
  unfold f0_87 at hv
  show own_WP p e below _ T (mkF m 87 #[.val (.int x0), .val (.int x1), .val (.int x2), .val (.int x3), .val (.int x4), .val (.int x5), .val (.int x6), .val (.ref b7), .val (.int x8), .val (.int x9), .val (.int x10), .val (.int x11), .unset, .unset, .unset, .unset, .unset, .unset, .unset, .unset, .unset] [])
  refine own_go (fun _ => XS.iloadN X.here hx rfl (hb hby at_87) rfl) ?_
  show own_WP p e below _ T (mkF m 88 #[.val (.int x0), .val (.int x1), .val (.int x2), .val (.int x3), .val (.int x4), .val (.int x5), .val (.int x6), .val (.ref b7), .val (.int x8), .val (.int x9), .val (.int x10), .val (.int x11), .unset, .unset, .unset, .unset, .unset, .unset, .unset, .unset, .unset] [(.int x3)])
  refine own_go (X.ldcInt hx hown (mvT hZ (hw _ (List.mem_of_getElem? (i := 24) rfl))) (g := (mkF m 88 #[.val (.int x0), .val (.int x1), .val (.int x2), .val (.int x3), .val (.int x4), .val (.int x5), .val (.int x6), .val (.ref b7), .val (.int x8), .val (.int x9), .val (.int x10), .val (.int x11), .unset, .unset, .unset, .unset, .unset, .unset, .unset, .unset, .unset] [(.int x3)])) rfl (hb hby at_88)) ?_
  show own_WP p e below _ T (mkF m 90 #[.val (.int x0), .val (.int x1), .val (.int x2), .val (.int x3), .val (.int x4), .val (.int x5), .val (.int x6), .val (.ref b7), .val (.int x8), .val (.int x9), .val (.int x10), .val (.int x11), .unset, .unset, .unset, .unset, .unset, .unset, .unset, .unset, .unset] [(.int (2147483647 : Int32)), (.int x3)])
  refine own_go (fun _ => XS.iand X.here hx rfl (hb hby at_90) rfl) ?_
  show own_WP p e below _ T (mkF m 91 #[.val (.int x0), .val (.int x1), .val (.int x2), .val (.int x3), .val (.int x4), .val (.int x5), .val (.int x6), .val (.ref b7), .val (.int x8), .val (.int x9), .val (.int x10), .val (.int x11), .unset, .unset, .unset, .unset, .unset, .unset, .unset, .unset, .unset] [(.int (x3 &&& (2147483647 : Int32)))])
  refine own_go (fun _ => XS.iload X.here hx rfl (hb hby at_91) rfl) ?_
  show own_WP p e below _ T (mkF m 93 #[.val (.int x0), .val (.int x1), .val (.int x2), .val (.int x3), .val (.int x4), .val (.int x5), .val (.int x6), .val (.ref b7), .val (.int x8), .val (.int x9), .val (.int x10), .val (.int x11), .unset, .unset, .unset, .unset, .unset, .unset, .unset, .unset, .unset] [(.int x6), (.int (x3 &&& (2147483647 : Int32)))])
  by_cases h93 : x6 = (0 : Int32)
  · cases ((if_pos h93).symm.trans hv)
  replace hv := (if_neg h93).symm.trans hv
  refine own_go (fun _ => iremM X hx rfl (hb hby at_93) rfl h93) ?_
  show own_WP p e below _ T (mkF m 94 #[.val (.int x0), .val (.int x1), .val (.int x2), .val (.int x3), .val (.int x4), .val (.int x5), .val (.int x6), .val (.ref b7), .val (.int x8), .val (.int x9), .val (.int x10), .val (.int x11), .unset, .unset, .unset, .unset, .unset, .unset, .unset, .unset, .unset] [(.int ((x3 &&& (2147483647 : Int32)) % x6))])
  refine own_go (fun _ => XS.istore X.here hx rfl (hb hby at_94) rfl (l' := #[.val (.int x0), .val (.int x1), .val (.int x2), .val (.int x3), .val (.int x4), .val (.int x5), .val (.int x6), .val (.ref b7), .val (.int x8), .val (.int x9), .val (.int x10), .val (.int x11), .val (.int ((x3 &&& (2147483647 : Int32)) % x6)), .unset, .unset, .unset, .unset, .unset, .unset, .unset, .unset]) rfl) ?_
  show own_WP p e below _ T (mkF m 96 #[.val (.int x0), .val (.int x1), .val (.int x2), .val (.int x3), .val (.int x4), .val (.int x5), .val (.int x6), .val (.ref b7), .val (.int x8), .val (.int x9), .val (.int x10), .val (.int x11), .val (.int ((x3 &&& (2147483647 : Int32)) % x6)), .unset, .unset, .unset, .unset, .unset, .unset, .unset, .unset] [])
  refine own_go (fun _ => XS.iconst X.here hx rfl (hb hby at_96)) ?_
  show own_WP p e below _ T (mkF m 97 #[.val (.int x0), .val (.int x1), .val (.int x2), .val (.int x3), .val (.int x4), .val (.int x5), .val (.int x6), .val (.ref b7), .val (.int x8), .val (.int x9), .val (.int x10), .val (.int x11), .val (.int ((x3 &&& (2147483647 : Int32)) % x6)), .unset, .unset, .unset, .unset, .unset, .unset, .unset, .unset] [(.int (1 : Int32))])
  refine own_go (fun _ => XS.iload X.here hx rfl (hb hby at_97) rfl) ?_
  show own_WP p e below _ T (mkF m 99 #[.val (.int x0), .val (.int x1), .val (.int x2), .val (.int x3), .val (.int x4), .val (.int x5), .val (.int x6), .val (.ref b7), .val (.int x8), .val (.int x9), .val (.int x10), .val (.int x11), .val (.int ((x3 &&& (2147483647 : Int32)) % x6)), .unset, .unset, .unset, .unset, .unset, .unset, .unset, .unset] [(.int x4), (.int (1 : Int32))])
  refine own_go (X.ldcInt hx hown (mvT hZ (hw _ (List.mem_of_getElem? (i := 24) rfl))) (g := (mkF m 99 #[.val (.int x0), .val (.int x1), .val (.int x2), .val (.int x3), .val (.int x4), .val (.int x5), .val (.int x6), .val (.ref b7), .val (.int x8), .val (.int x9), .val (.int x10), .val (.int x11), .val (.int ((x3 &&& (2147483647 : Int32)) % x6)), .unset, .unset, .unset, .unset, .unset, .unset, .unset, .unset] [(.int x4), (.int (1 : Int32))])) rfl (hb hby at_99)) ?_
  show own_WP p e below _ T (mkF m 101 #[.val (.int x0), .val (.int x1), .val (.int x2), .val (.int x3), .val (.int x4), .val (.int x5), .val (.int x6), .val (.ref b7), .val (.int x8), .val (.int x9), .val (.int x10), .val (.int x11), .val (.int ((x3 &&& (2147483647 : Int32)) % x6)), .unset, .unset, .unset, .unset, .unset, .unset, .unset, .unset] [(.int (2147483647 : Int32)), (.int x4), (.int (1 : Int32))])
  refine own_go (fun _ => XS.iand X.here hx rfl (hb hby at_101) rfl) ?_
  show own_WP p e below _ T (mkF m 102 #[.val (.int x0), .val (.int x1), .val (.int x2), .val (.int x3), .val (.int x4), .val (.int x5), .val (.int x6), .val (.ref b7), .val (.int x8), .val (.int x9), .val (.int x10), .val (.int x11), .val (.int ((x3 &&& (2147483647 : Int32)) % x6)), .unset, .unset, .unset, .unset, .unset, .unset, .unset, .unset] [(.int (x4 &&& (2147483647 : Int32))), (.int (1 : Int32))])
  refine own_go (fun _ => XS.iload X.here hx rfl (hb hby at_102) rfl) ?_
  show own_WP p e below _ T (mkF m 104 #[.val (.int x0), .val (.int x1), .val (.int x2), .val (.int x3), .val (.int x4), .val (.int x5), .val (.int x6), .val (.ref b7), .val (.int x8), .val (.int x9), .val (.int x10), .val (.int x11), .val (.int ((x3 &&& (2147483647 : Int32)) % x6)), .unset, .unset, .unset, .unset, .unset, .unset, .unset, .unset] [(.int x6), (.int (x4 &&& (2147483647 : Int32))), (.int (1 : Int32))])
  refine own_go (fun _ => XS.iconst X.here hx rfl (hb hby at_104)) ?_
  show own_WP p e below _ T (mkF m 105 #[.val (.int x0), .val (.int x1), .val (.int x2), .val (.int x3), .val (.int x4), .val (.int x5), .val (.int x6), .val (.ref b7), .val (.int x8), .val (.int x9), .val (.int x10), .val (.int x11), .val (.int ((x3 &&& (2147483647 : Int32)) % x6)), .unset, .unset, .unset, .unset, .unset, .unset, .unset, .unset] [(.int (1 : Int32)), (.int x6), (.int (x4 &&& (2147483647 : Int32))), (.int (1 : Int32))])
  refine own_go (fun _ => XS.isub X.here hx rfl (hb hby at_105) rfl) ?_
  show own_WP p e below _ T (mkF m 106 #[.val (.int x0), .val (.int x1), .val (.int x2), .val (.int x3), .val (.int x4), .val (.int x5), .val (.int x6), .val (.ref b7), .val (.int x8), .val (.int x9), .val (.int x10), .val (.int x11), .val (.int ((x3 &&& (2147483647 : Int32)) % x6)), .unset, .unset, .unset, .unset, .unset, .unset, .unset, .unset] [(.int (x6 - (1 : Int32))), (.int (x4 &&& (2147483647 : Int32))), (.int (1 : Int32))])
  by_cases h106 : (x6 - (1 : Int32)) = (0 : Int32)
  · cases ((if_pos h106).symm.trans hv)
  replace hv := (if_neg h106).symm.trans hv
  refine own_go (fun _ => iremM X hx rfl (hb hby at_106) rfl h106) ?_
  show own_WP p e below _ T (mkF m 107 #[.val (.int x0), .val (.int x1), .val (.int x2), .val (.int x3), .val (.int x4), .val (.int x5), .val (.int x6), .val (.ref b7), .val (.int x8), .val (.int x9), .val (.int x10), .val (.int x11), .val (.int ((x3 &&& (2147483647 : Int32)) % x6)), .unset, .unset, .unset, .unset, .unset, .unset, .unset, .unset] [(.int ((x4 &&& (2147483647 : Int32)) % (x6 - (1 : Int32)))), (.int (1 : Int32))])
  refine own_go (fun _ => XS.iadd X.here hx rfl (hb hby at_107) rfl) ?_
  show own_WP p e below _ T (mkF m 108 #[.val (.int x0), .val (.int x1), .val (.int x2), .val (.int x3), .val (.int x4), .val (.int x5), .val (.int x6), .val (.ref b7), .val (.int x8), .val (.int x9), .val (.int x10), .val (.int x11), .val (.int ((x3 &&& (2147483647 : Int32)) % x6)), .unset, .unset, .unset, .unset, .unset, .unset, .unset, .unset] [(.int ((1 : Int32) + ((x4 &&& (2147483647 : Int32)) % (x6 - (1 : Int32)))))])
  generalize ((1 : Int32) + ((x4 &&& (2147483647 : Int32)) % (x6 - (1 : Int32)))) = y8 at hv ⊢
  replace hv := own_letE hv
  show own_WP p e below _ T (mkF m 108 #[.val (.int x0), .val (.int x1), .val (.int x2), .val (.int x3), .val (.int x4), .val (.int x5), .val (.int x6), .val (.ref b7), .val (.int x8), .val (.int x9), .val (.int x10), .val (.int x11), .val (.int ((x3 &&& (2147483647 : Int32)) % x6)), .unset, .unset, .unset, .unset, .unset, .unset, .unset, .unset] [(.int y8)])
  refine own_go (fun _ => XS.istore X.here hx rfl (hb hby at_108) rfl (l' := #[.val (.int x0), .val (.int x1), .val (.int x2), .val (.int x3), .val (.int x4), .val (.int x5), .val (.int x6), .val (.ref b7), .val (.int x8), .val (.int x9), .val (.int x10), .val (.int x11), .val (.int ((x3 &&& (2147483647 : Int32)) % x6)), .val (.int y8), .unset, .unset, .unset, .unset, .unset, .unset, .unset]) rfl) ?_
  show own_WP p e below _ T (mkF m 110 #[.val (.int x0), .val (.int x1), .val (.int x2), .val (.int x3), .val (.int x4), .val (.int x5), .val (.int x6), .val (.ref b7), .val (.int x8), .val (.int x9), .val (.int x10), .val (.int x11), .val (.int ((x3 &&& (2147483647 : Int32)) % x6)), .val (.int y8), .unset, .unset, .unset, .unset, .unset, .unset, .unset] [])
  refine own_go (fun _ => XS.iconst X.here hx rfl (hb hby at_110)) ?_
  show own_WP p e below _ T (mkF m 111 #[.val (.int x0), .val (.int x1), .val (.int x2), .val (.int x3), .val (.int x4), .val (.int x5), .val (.int x6), .val (.ref b7), .val (.int x8), .val (.int x9), .val (.int x10), .val (.int x11), .val (.int ((x3 &&& (2147483647 : Int32)) % x6)), .val (.int y8), .unset, .unset, .unset, .unset, .unset, .unset, .unset] [(.int (1 : Int32))])
  refine own_go (fun _ => XS.iload X.here hx rfl (hb hby at_111) rfl) ?_
  show own_WP p e below _ T (mkF m 113 #[.val (.int x0), .val (.int x1), .val (.int x2), .val (.int x3), .val (.int x4), .val (.int x5), .val (.int x6), .val (.ref b7), .val (.int x8), .val (.int x9), .val (.int x10), .val (.int x11), .val (.int ((x3 &&& (2147483647 : Int32)) % x6)), .val (.int y8), .unset, .unset, .unset, .unset, .unset, .unset, .unset] [(.int y8), (.int (1 : Int32))])
  refine own_go (fun _ => XS.iload X.here hx rfl (hb hby at_113) rfl) ?_
  show own_WP p e below _ T (mkF m 115 #[.val (.int x0), .val (.int x1), .val (.int x2), .val (.int x3), .val (.int x4), .val (.int x5), .val (.int x6), .val (.ref b7), .val (.int x8), .val (.int x9), .val (.int x10), .val (.int x11), .val (.int ((x3 &&& (2147483647 : Int32)) % x6)), .val (.int y8), .unset, .unset, .unset, .unset, .unset, .unset, .unset] [(.int x5), (.int y8), (.int (1 : Int32))])
  refine own_go (X.ldcInt hx hown (mvT hZ (hw _ (List.mem_of_getElem? (i := 24) rfl))) (g := (mkF m 115 #[.val (.int x0), .val (.int x1), .val (.int x2), .val (.int x3), .val (.int x4), .val (.int x5), .val (.int x6), .val (.ref b7), .val (.int x8), .val (.int x9), .val (.int x10), .val (.int x11), .val (.int ((x3 &&& (2147483647 : Int32)) % x6)), .val (.int y8), .unset, .unset, .unset, .unset, .unset, .unset, .unset] [(.int x5), (.int y8), (.int (1 : Int32))])) rfl (hb hby at_115)) ?_
  show own_WP p e below _ T (mkF m 117 #[.val (.int x0), .val (.int x1), .val (.int x2), .val (.int x3), .val (.int x4), .val (.int x5), .val (.int x6), .val (.ref b7), .val (.int x8), .val (.int x9), .val (.int x10), .val (.int x11), .val (.int ((x3 &&& (2147483647 : Int32)) % x6)), .val (.int y8), .unset, .unset, .unset, .unset, .unset, .unset, .unset] [(.int (2147483647 : Int32)), (.int x5), (.int y8), (.int (1 : Int32))])
  refine own_go (fun _ => XS.iand X.here hx rfl (hb hby at_117) rfl) ?_
  show own_WP p e below _ T (mkF m 118 #[.val (.int x0), .val (.int x1), .val (.int x2), .val (.int x3), .val (.int x4), .val (.int x5), .val (.int x6), .val (.ref b7), .val (.int x8), .val (.int x9), .val (.int x10), .val (.int x11), .val (.int ((x3 &&& (2147483647 : Int32)) % x6)), .val (.int y8), .unset, .unset, .unset, .unset, .unset, .unset, .unset] [(.int (x5 &&& (2147483647 : Int32))), (.int y8), (.int (1 : Int32))])
  refine own_go (fun _ => XS.iload X.here hx rfl (hb hby at_118) rfl) ?_
  show own_WP p e below _ T (mkF m 120 #[.val (.int x0), .val (.int x1), .val (.int x2), .val (.int x3), .val (.int x4), .val (.int x5), .val (.int x6), .val (.ref b7), .val (.int x8), .val (.int x9), .val (.int x10), .val (.int x11), .val (.int ((x3 &&& (2147483647 : Int32)) % x6)), .val (.int y8), .unset, .unset, .unset, .unset, .unset, .unset, .unset] [(.int x6), (.int (x5 &&& (2147483647 : Int32))), (.int y8), (.int (1 : Int32))])
  refine own_go (fun _ => XS.iconst X.here hx rfl (hb hby at_120)) ?_
  show own_WP p e below _ T (mkF m 121 #[.val (.int x0), .val (.int x1), .val (.int x2), .val (.int x3), .val (.int x4), .val (.int x5), .val (.int x6), .val (.ref b7), .val (.int x8), .val (.int x9), .val (.int x10), .val (.int x11), .val (.int ((x3 &&& (2147483647 : Int32)) % x6)), .val (.int y8), .unset, .unset, .unset, .unset, .unset, .unset, .unset] [(.int (2 : Int32)), (.int x6), (.int (x5 &&& (2147483647 : Int32))), (.int y8), (.int (1 : Int32))])
  refine own_go (fun _ => XS.isub X.here hx rfl (hb hby at_121) rfl) ?_
  show own_WP p e below _ T (mkF m 122 #[.val (.int x0), .val (.int x1), .val (.int x2), .val (.int x3), .val (.int x4), .val (.int x5), .val (.int x6), .val (.ref b7), .val (.int x8), .val (.int x9), .val (.int x10), .val (.int x11), .val (.int ((x3 &&& (2147483647 : Int32)) % x6)), .val (.int y8), .unset, .unset, .unset, .unset, .unset, .unset, .unset] [(.int (x6 - (2 : Int32))), (.int (x5 &&& (2147483647 : Int32))), (.int y8), (.int (1 : Int32))])
  by_cases h122 : (x6 - (2 : Int32)) = (0 : Int32)
  · cases ((if_pos h122).symm.trans hv)
  replace hv := (if_neg h122).symm.trans hv
  refine own_go (fun _ => iremM X hx rfl (hb hby at_122) rfl h122) ?_
  show own_WP p e below _ T (mkF m 123 #[.val (.int x0), .val (.int x1), .val (.int x2), .val (.int x3), .val (.int x4), .val (.int x5), .val (.int x6), .val (.ref b7), .val (.int x8), .val (.int x9), .val (.int x10), .val (.int x11), .val (.int ((x3 &&& (2147483647 : Int32)) % x6)), .val (.int y8), .unset, .unset, .unset, .unset, .unset, .unset, .unset] [(.int ((x5 &&& (2147483647 : Int32)) % (x6 - (2 : Int32)))), (.int y8), (.int (1 : Int32))])
  refine own_go (fun _ => XS.iadd X.here hx rfl (hb hby at_123) rfl) ?_
  show own_WP p e below _ T (mkF m 124 #[.val (.int x0), .val (.int x1), .val (.int x2), .val (.int x3), .val (.int x4), .val (.int x5), .val (.int x6), .val (.ref b7), .val (.int x8), .val (.int x9), .val (.int x10), .val (.int x11), .val (.int ((x3 &&& (2147483647 : Int32)) % x6)), .val (.int y8), .unset, .unset, .unset, .unset, .unset, .unset, .unset] [(.int (y8 + ((x5 &&& (2147483647 : Int32)) % (x6 - (2 : Int32))))), (.int (1 : Int32))])
  refine own_go (fun _ => XS.iload X.here hx rfl (hb hby at_124) rfl) ?_
  show own_WP p e below _ T (mkF m 126 #[.val (.int x0), .val (.int x1), .val (.int x2), .val (.int x3), .val (.int x4), .val (.int x5), .val (.int x6), .val (.ref b7), .val (.int x8), .val (.int x9), .val (.int x10), .val (.int x11), .val (.int ((x3 &&& (2147483647 : Int32)) % x6)), .val (.int y8), .unset, .unset, .unset, .unset, .unset, .unset, .unset] [(.int x6), (.int (y8 + ((x5 &&& (2147483647 : Int32)) % (x6 - (2 : Int32))))), (.int (1 : Int32))])
  refine own_go (fun _ => XS.iconst X.here hx rfl (hb hby at_126)) ?_
  show own_WP p e below _ T (mkF m 127 #[.val (.int x0), .val (.int x1), .val (.int x2), .val (.int x3), .val (.int x4), .val (.int x5), .val (.int x6), .val (.ref b7), .val (.int x8), .val (.int x9), .val (.int x10), .val (.int x11), .val (.int ((x3 &&& (2147483647 : Int32)) % x6)), .val (.int y8), .unset, .unset, .unset, .unset, .unset, .unset, .unset] [(.int (1 : Int32)), (.int x6), (.int (y8 + ((x5 &&& (2147483647 : Int32)) % (x6 - (2 : Int32))))), (.int (1 : Int32))])
  refine own_go (fun _ => XS.isub X.here hx rfl (hb hby at_127) rfl) ?_
  show own_WP p e below _ T (mkF m 128 #[.val (.int x0), .val (.int x1), .val (.int x2), .val (.int x3), .val (.int x4), .val (.int x5), .val (.int x6), .val (.ref b7), .val (.int x8), .val (.int x9), .val (.int x10), .val (.int x11), .val (.int ((x3 &&& (2147483647 : Int32)) % x6)), .val (.int y8), .unset, .unset, .unset, .unset, .unset, .unset, .unset] [(.int (x6 - (1 : Int32))), (.int (y8 + ((x5 &&& (2147483647 : Int32)) % (x6 - (2 : Int32))))), (.int (1 : Int32))])
  by_cases h128 : (x6 - (1 : Int32)) = (0 : Int32)
  · cases ((if_pos h128).symm.trans hv)
  replace hv := (if_neg h128).symm.trans hv
  refine own_go (fun _ => iremM X hx rfl (hb hby at_128) rfl h128) ?_
  show own_WP p e below _ T (mkF m 129 #[.val (.int x0), .val (.int x1), .val (.int x2), .val (.int x3), .val (.int x4), .val (.int x5), .val (.int x6), .val (.ref b7), .val (.int x8), .val (.int x9), .val (.int x10), .val (.int x11), .val (.int ((x3 &&& (2147483647 : Int32)) % x6)), .val (.int y8), .unset, .unset, .unset, .unset, .unset, .unset, .unset] [(.int ((y8 + ((x5 &&& (2147483647 : Int32)) % (x6 - (2 : Int32)))) % (x6 - (1 : Int32)))), (.int (1 : Int32))])
  refine own_go (fun _ => XS.iadd X.here hx rfl (hb hby at_129) rfl) ?_
  show own_WP p e below _ T (mkF m 130 #[.val (.int x0), .val (.int x1), .val (.int x2), .val (.int x3), .val (.int x4), .val (.int x5), .val (.int x6), .val (.ref b7), .val (.int x8), .val (.int x9), .val (.int x10), .val (.int x11), .val (.int ((x3 &&& (2147483647 : Int32)) % x6)), .val (.int y8), .unset, .unset, .unset, .unset, .unset, .unset, .unset] [(.int ((1 : Int32) + ((y8 + ((x5 &&& (2147483647 : Int32)) % (x6 - (2 : Int32)))) % (x6 - (1 : Int32)))))])
  generalize ((1 : Int32) + ((y8 + ((x5 &&& (2147483647 : Int32)) % (x6 - (2 : Int32)))) % (x6 - (1 : Int32)))) = y9 at hv ⊢
  replace hv := own_letE hv
  show own_WP p e below _ T (mkF m 130 #[.val (.int x0), .val (.int x1), .val (.int x2), .val (.int x3), .val (.int x4), .val (.int x5), .val (.int x6), .val (.ref b7), .val (.int x8), .val (.int x9), .val (.int x10), .val (.int x11), .val (.int ((x3 &&& (2147483647 : Int32)) % x6)), .val (.int y8), .unset, .unset, .unset, .unset, .unset, .unset, .unset] [(.int y9)])
  refine own_go (fun _ => XS.istore X.here hx rfl (hb hby at_130) rfl (l' := #[.val (.int x0), .val (.int x1), .val (.int x2), .val (.int x3), .val (.int x4), .val (.int x5), .val (.int x6), .val (.ref b7), .val (.int x8), .val (.int x9), .val (.int x10), .val (.int x11), .val (.int ((x3 &&& (2147483647 : Int32)) % x6)), .val (.int y8), .val (.int y9), .unset, .unset, .unset, .unset, .unset, .unset]) rfl) ?_
  show own_WP p e below _ T (mkF m 132 #[.val (.int x0), .val (.int x1), .val (.int x2), .val (.int x3), .val (.int x4), .val (.int x5), .val (.int x6), .val (.ref b7), .val (.int x8), .val (.int x9), .val (.int x10), .val (.int x11), .val (.int ((x3 &&& (2147483647 : Int32)) % x6)), .val (.int y8), .val (.int y9), .unset, .unset, .unset, .unset, .unset, .unset] [])
  refine own_go (fun _ => XS.iload X.here hx rfl (hb hby at_132) rfl) ?_
  show own_WP p e below _ T (mkF m 134 #[.val (.int x0), .val (.int x1), .val (.int x2), .val (.int x3), .val (.int x4), .val (.int x5), .val (.int x6), .val (.ref b7), .val (.int x8), .val (.int x9), .val (.int x10), .val (.int x11), .val (.int ((x3 &&& (2147483647 : Int32)) % x6)), .val (.int y8), .val (.int y9), .unset, .unset, .unset, .unset, .unset, .unset] [(.int ((x3 &&& (2147483647 : Int32)) % x6))])
  refine own_go (fun _ => XS.iload X.here hx rfl (hb hby at_134) rfl) ?_
  show own_WP p e below _ T (mkF m 136 #[.val (.int x0), .val (.int x1), .val (.int x2), .val (.int x3), .val (.int x4), .val (.int x5), .val (.int x6), .val (.ref b7), .val (.int x8), .val (.int x9), .val (.int x10), .val (.int x11), .val (.int ((x3 &&& (2147483647 : Int32)) % x6)), .val (.int y8), .val (.int y9), .unset, .unset, .unset, .unset, .unset, .unset] [(.int y8), (.int ((x3 &&& (2147483647 : Int32)) % x6))])
  refine own_go (fun _ => XS.iadd X.here hx rfl (hb hby at_136) rfl) ?_
  show own_WP p e below _ T (mkF m 137 #[.val (.int x0), .val (.int x1), .val (.int x2), .val (.int x3), .val (.int x4), .val (.int x5), .val (.int x6), .val (.ref b7), .val (.int x8), .val (.int x9), .val (.int x10), .val (.int x11), .val (.int ((x3 &&& (2147483647 : Int32)) % x6)), .val (.int y8), .val (.int y9), .unset, .unset, .unset, .unset, .unset, .unset] [(.int (((x3 &&& (2147483647 : Int32)) % x6) + y8))])
  refine own_go (fun _ => XS.iload X.here hx rfl (hb hby at_137) rfl) ?_
  show own_WP p e below _ T (mkF m 139 #[.val (.int x0), .val (.int x1), .val (.int x2), .val (.int x3), .val (.int x4), .val (.int x5), .val (.int x6), .val (.ref b7), .val (.int x8), .val (.int x9), .val (.int x10), .val (.int x11), .val (.int ((x3 &&& (2147483647 : Int32)) % x6)), .val (.int y8), .val (.int y9), .unset, .unset, .unset, .unset, .unset, .unset] [(.int x6), (.int (((x3 &&& (2147483647 : Int32)) % x6) + y8))])
  by_cases h139 : x6 = (0 : Int32)
  · cases ((if_pos h139).symm.trans hv)
  replace hv := (if_neg h139).symm.trans hv
  refine own_go (fun _ => iremM X hx rfl (hb hby at_139) rfl h139) ?_
  show own_WP p e below _ T (mkF m 140 #[.val (.int x0), .val (.int x1), .val (.int x2), .val (.int x3), .val (.int x4), .val (.int x5), .val (.int x6), .val (.ref b7), .val (.int x8), .val (.int x9), .val (.int x10), .val (.int x11), .val (.int ((x3 &&& (2147483647 : Int32)) % x6)), .val (.int y8), .val (.int y9), .unset, .unset, .unset, .unset, .unset, .unset] [(.int ((((x3 &&& (2147483647 : Int32)) % x6) + y8) % x6))])
  generalize ((((x3 &&& (2147483647 : Int32)) % x6) + y8) % x6) = y10 at hv ⊢
  replace hv := own_letE hv
  show own_WP p e below _ T (mkF m 140 #[.val (.int x0), .val (.int x1), .val (.int x2), .val (.int x3), .val (.int x4), .val (.int x5), .val (.int x6), .val (.ref b7), .val (.int x8), .val (.int x9), .val (.int x10), .val (.int x11), .val (.int ((x3 &&& (2147483647 : Int32)) % x6)), .val (.int y8), .val (.int y9), .unset, .unset, .unset, .unset, .unset, .unset] [(.int y10)])
  refine own_go (fun _ => XS.istore X.here hx rfl (hb hby at_140) rfl (l' := #[.val (.int x0), .val (.int x1), .val (.int x2), .val (.int x3), .val (.int x4), .val (.int x5), .val (.int x6), .val (.ref b7), .val (.int x8), .val (.int x9), .val (.int x10), .val (.int x11), .val (.int ((x3 &&& (2147483647 : Int32)) % x6)), .val (.int y8), .val (.int y9), .val (.int y10), .unset, .unset, .unset, .unset, .unset]) rfl) ?_
  show own_WP p e below _ T (mkF m 142 #[.val (.int x0), .val (.int x1), .val (.int x2), .val (.int x3), .val (.int x4), .val (.int x5), .val (.int x6), .val (.ref b7), .val (.int x8), .val (.int x9), .val (.int x10), .val (.int x11), .val (.int ((x3 &&& (2147483647 : Int32)) % x6)), .val (.int y8), .val (.int y9), .val (.int y10), .unset, .unset, .unset, .unset, .unset] [])
  refine own_go (fun _ => XS.iload X.here hx rfl (hb hby at_142) rfl) ?_
  show own_WP p e below _ T (mkF m 144 #[.val (.int x0), .val (.int x1), .val (.int x2), .val (.int x3), .val (.int x4), .val (.int x5), .val (.int x6), .val (.ref b7), .val (.int x8), .val (.int x9), .val (.int x10), .val (.int x11), .val (.int ((x3 &&& (2147483647 : Int32)) % x6)), .val (.int y8), .val (.int y9), .val (.int y10), .unset, .unset, .unset, .unset, .unset] [(.int ((x3 &&& (2147483647 : Int32)) % x6))])
  refine own_go (fun _ => XS.iload X.here hx rfl (hb hby at_144) rfl) ?_
  show own_WP p e below _ T (mkF m 146 #[.val (.int x0), .val (.int x1), .val (.int x2), .val (.int x3), .val (.int x4), .val (.int x5), .val (.int x6), .val (.ref b7), .val (.int x8), .val (.int x9), .val (.int x10), .val (.int x11), .val (.int ((x3 &&& (2147483647 : Int32)) % x6)), .val (.int y8), .val (.int y9), .val (.int y10), .unset, .unset, .unset, .unset, .unset] [(.int y9), (.int ((x3 &&& (2147483647 : Int32)) % x6))])
  refine own_go (fun _ => XS.iadd X.here hx rfl (hb hby at_146) rfl) ?_
  show own_WP p e below _ T (mkF m 147 #[.val (.int x0), .val (.int x1), .val (.int x2), .val (.int x3), .val (.int x4), .val (.int x5), .val (.int x6), .val (.ref b7), .val (.int x8), .val (.int x9), .val (.int x10), .val (.int x11), .val (.int ((x3 &&& (2147483647 : Int32)) % x6)), .val (.int y8), .val (.int y9), .val (.int y10), .unset, .unset, .unset, .unset, .unset] [(.int (((x3 &&& (2147483647 : Int32)) % x6) + y9))])
  refine own_go (fun _ => XS.iload X.here hx rfl (hb hby at_147) rfl) ?_
  show own_WP p e below _ T (mkF m 149 #[.val (.int x0), .val (.int x1), .val (.int x2), .val (.int x3), .val (.int x4), .val (.int x5), .val (.int x6), .val (.ref b7), .val (.int x8), .val (.int x9), .val (.int x10), .val (.int x11), .val (.int ((x3 &&& (2147483647 : Int32)) % x6)), .val (.int y8), .val (.int y9), .val (.int y10), .unset, .unset, .unset, .unset, .unset] [(.int x6), (.int (((x3 &&& (2147483647 : Int32)) % x6) + y9))])
  by_cases h149 : x6 = (0 : Int32)
  · cases ((if_pos h149).symm.trans hv)
  replace hv := (if_neg h149).symm.trans hv
  refine own_go (fun _ => iremM X hx rfl (hb hby at_149) rfl h149) ?_
  show own_WP p e below _ T (mkF m 150 #[.val (.int x0), .val (.int x1), .val (.int x2), .val (.int x3), .val (.int x4), .val (.int x5), .val (.int x6), .val (.ref b7), .val (.int x8), .val (.int x9), .val (.int x10), .val (.int x11), .val (.int ((x3 &&& (2147483647 : Int32)) % x6)), .val (.int y8), .val (.int y9), .val (.int y10), .unset, .unset, .unset, .unset, .unset] [(.int ((((x3 &&& (2147483647 : Int32)) % x6) + y9) % x6))])
  generalize ((((x3 &&& (2147483647 : Int32)) % x6) + y9) % x6) = y11 at hv ⊢
  replace hv := own_letE hv
  show own_WP p e below _ T (mkF m 150 #[.val (.int x0), .val (.int x1), .val (.int x2), .val (.int x3), .val (.int x4), .val (.int x5), .val (.int x6), .val (.ref b7), .val (.int x8), .val (.int x9), .val (.int x10), .val (.int x11), .val (.int ((x3 &&& (2147483647 : Int32)) % x6)), .val (.int y8), .val (.int y9), .val (.int y10), .unset, .unset, .unset, .unset, .unset] [(.int y11)])
  refine own_go (fun _ => XS.istore X.here hx rfl (hb hby at_150) rfl (l' := #[.val (.int x0), .val (.int x1), .val (.int x2), .val (.int x3), .val (.int x4), .val (.int x5), .val (.int x6), .val (.ref b7), .val (.int x8), .val (.int x9), .val (.int x10), .val (.int x11), .val (.int ((x3 &&& (2147483647 : Int32)) % x6)), .val (.int y8), .val (.int y9), .val (.int y10), .val (.int y11), .unset, .unset, .unset, .unset]) rfl) ?_
  show own_WP p e below _ T (mkF m 152 #[.val (.int x0), .val (.int x1), .val (.int x2), .val (.int x3), .val (.int x4), .val (.int x5), .val (.int x6), .val (.ref b7), .val (.int x8), .val (.int x9), .val (.int x10), .val (.int x11), .val (.int ((x3 &&& (2147483647 : Int32)) % x6)), .val (.int y8), .val (.int y9), .val (.int y10), .val (.int y11), .unset, .unset, .unset, .unset] [])
  refine own_go (fun _ => XS.aload X.here hx rfl (hb hby at_152) rfl rfl) ?_
  show own_WP p e below _ T (mkF m 154 #[.val (.int x0), .val (.int x1), .val (.int x2), .val (.int x3), .val (.int x4), .val (.int x5), .val (.int x6), .val (.ref b7), .val (.int x8), .val (.int x9), .val (.int x10), .val (.int x11), .val (.int ((x3 &&& (2147483647 : Int32)) % x6)), .val (.int y8), .val (.int y9), .val (.int y10), .val (.int y11), .unset, .unset, .unset, .unset] [(.ref b7)])
  refine own_go (fun _ => XS.iload X.here hx rfl (hb hby at_154) rfl) ?_
  show own_WP p e below _ T (mkF m 156 #[.val (.int x0), .val (.int x1), .val (.int x2), .val (.int x3), .val (.int x4), .val (.int x5), .val (.int x6), .val (.ref b7), .val (.int x8), .val (.int x9), .val (.int x10), .val (.int x11), .val (.int ((x3 &&& (2147483647 : Int32)) % x6)), .val (.int y8), .val (.int y9), .val (.int y10), .val (.int y11), .unset, .unset, .unset, .unset] [(.int x8), (.ref b7)])
  obtain ⟨rr12, hf12, hv⟩ := own_bind hv
  obtain ⟨T12, v12, L12, X12, ⟨N12, K12, Q12⟩, st12⟩ := own_callV X C (a := b7) (argsL := [(.int x8)]) (rm5 l Z a0 hw n0 h (by have q := K.1; omega) (by omega) (by omega) (by omega) (by omega) E_b7 F_b7_root F_b7_following F_b7_preceding F_b7_depth V_b13_b13 V_b13_b22 V_b13_b31 x8 rr12 hf12) (hw _ (List.mem_of_getElem? (i := 36) rfl)) (hw _ (List.mem_of_getElem? (i := 31) rfl)) (hw _ (List.mem_of_getElem? (i := 33) rfl)) (hw _ (List.mem_of_getElem? (i := 32) rfl)) (hw _ (List.mem_of_getElem? (i := 2) rfl)) (hw _ (List.mem_of_getElem? (i := 34) rfl)) (by decide) e0 E_b7 (W := 0) (pc := 156) (Ls := #[.val (.int x0), .val (.int x1), .val (.int x2), .val (.int x3), .val (.int x4), .val (.int x5), .val (.int x6), .val (.ref b7), .val (.int x8), .val (.int x9), .val (.int x10), .val (.int x11), .val (.int ((x3 &&& (2147483647 : Int32)) % x6)), .val (.int y8), .val (.int y9), .val (.int y10), .val (.int y11), .unset, .unset, .unset, .unset]) rfl (lenOf pd5 rfl) (rest := []) (stk := [(.int x8), (.ref b7)]) rfl (Nat.le_of_ble_eq_true rfl) (hb hby at_156) (by decide) (by decide) (by decide) (by decide)
  replace N := Fr.app N N12
  replace E_b7 := E_b7.keep K12
  replace F_b7_root := F_b7_root.keep K12 nin0
  replace F_b7_following := F_b7_following.keep K12 nin0
  replace F_b7_preceding := F_b7_preceding.keep K12 nin0
  replace F_b7_depth := F_b7_depth.keep K12 nin0
  replace V_b13_b13 := V_b13_b13.keep K12 nin0
  replace V_b13_b22 := V_b13_b22.keep K12 nin0
  replace V_b13_b31 := V_b13_b31.keep K12 nin0
  obtain ⟨rfl⟩ := Q12
  replace K := K.trans K12 all0
  refine own_go st12 ?_
  show own_WP p e below _ T12 (mkF m 159 #[.val (.int x0), .val (.int x1), .val (.int x2), .val (.int x3), .val (.int x4), .val (.int x5), .val (.int x6), .val (.ref b7), .val (.int x8), .val (.int x9), .val (.int x10), .val (.int x11), .val (.int ((x3 &&& (2147483647 : Int32)) % x6)), .val (.int y8), .val (.int y9), .val (.int y10), .val (.int y11), .unset, .unset, .unset, .unset] [(.int rr12)])
  by_cases h159 : rr12 = (0 : Int32)
  · replace hv := (if_pos h159).symm.trans hv
    refine own_go (fun _ => XS.ifYes X12.here hx rfl (pc0 := 159) (pc' := 187) rfl (hb hby at_159) rfl (XT.i0_eq_t h159) (by decide) (by decide)) ?_
    exact b0_187 hw C Z0 rr hP X12 (rfl : T12.heap = T12.heap) N K o_b7_b13_b13 o_b13_b13_b13_b22 o_b13_b22_b13_b31 g_b7 z_b7 E_b7 F_b7_root F_b7_following F_b7_preceding F_b7_depth V_b13_b13 V_b13_b22 V_b13_b31 x0 x1 x2 x3 x4 x5 x6 x8 x9 x10 x11 ((x3 &&& (2147483647 : Int32)) % x6) y8 y9 y10 y11 hv
  · replace hv := (if_neg h159).symm.trans hv
    refine own_go (fun _ => XS.ifNo X12.here hx rfl (hb hby at_159) rfl (XT.i0_eq_f h159)) ?_
    show own_WP p e below _ T12 (mkF m 162 #[.val (.int x0), .val (.int x1), .val (.int x2), .val (.int x3), .val (.int x4), .val (.int x5), .val (.int x6), .val (.ref b7), .val (.int x8), .val (.int x9), .val (.int x10), .val (.int x11), .val (.int ((x3 &&& (2147483647 : Int32)) % x6)), .val (.int y8), .val (.int y9), .val (.int y10), .val (.int y11), .unset, .unset, .unset, .unset] [])
    refine own_go (fun _ => XS.aload X12.here hx rfl (hb hby at_162) rfl rfl) ?_
    show own_WP p e below _ T12 (mkF m 164 #[.val (.int x0), .val (.int x1), .val (.int x2), .val (.int x3), .val (.int x4), .val (.int x5), .val (.int x6), .val (.ref b7), .val (.int x8), .val (.int x9), .val (.int x10), .val (.int x11), .val (.int ((x3 &&& (2147483647 : Int32)) % x6)), .val (.int y8), .val (.int y9), .val (.int y10), .val (.int y11), .unset, .unset, .unset, .unset] [(.ref b7)])
    refine own_go (fun _ => XS.iconst X12.here hx rfl (hb hby at_164)) ?_
    show own_WP p e below _ T12 (mkF m 165 #[.val (.int x0), .val (.int x1), .val (.int x2), .val (.int x3), .val (.int x4), .val (.int x5), .val (.int x6), .val (.ref b7), .val (.int x8), .val (.int x9), .val (.int x10), .val (.int x11), .val (.int ((x3 &&& (2147483647 : Int32)) % x6)), .val (.int y8), .val (.int y9), .val (.int y10), .val (.int y11), .unset, .unset, .unset, .unset] [(.int (0 : Int32)), (.ref b7)])
    obtain ⟨rr16, hf16, hv⟩ := own_bind hv
    obtain ⟨T16, v16, L16, X16, ⟨N16, K16, Q16⟩, st16⟩ := own_callV X12 C (a := b7) (argsL := [(.int (0 : Int32))]) (rm5 l Z a0 hw n0 T12.heap (by have q := K.1; omega) (by omega) (by omega) (by omega) (by omega) E_b7 F_b7_root F_b7_following F_b7_preceding F_b7_depth V_b13_b13 V_b13_b22 V_b13_b31 (0 : Int32) rr16 hf16) (hw _ (List.mem_of_getElem? (i := 36) rfl)) (hw _ (List.mem_of_getElem? (i := 31) rfl)) (hw _ (List.mem_of_getElem? (i := 33) rfl)) (hw _ (List.mem_of_getElem? (i := 32) rfl)) (hw _ (List.mem_of_getElem? (i := 2) rfl)) (hw _ (List.mem_of_getElem? (i := 34) rfl)) (by decide) (rfl : T12.heap = T12.heap) E_b7 (W := 0) (pc := 165) (Ls := #[.val (.int x0), .val (.int x1), .val (.int x2), .val (.int x3), .val (.int x4), .val (.int x5), .val (.int x6), .val (.ref b7), .val (.int x8), .val (.int x9), .val (.int x10), .val (.int x11), .val (.int ((x3 &&& (2147483647 : Int32)) % x6)), .val (.int y8), .val (.int y9), .val (.int y10), .val (.int y11), .unset, .unset, .unset, .unset]) rfl (lenOf pd5 rfl) (rest := []) (stk := [(.int (0 : Int32)), (.ref b7)]) rfl (Nat.le_of_ble_eq_true rfl) (hb hby at_165) (by decide) (by decide) (by decide) (by decide)
    replace N := Fr.app N N16
    replace E_b7 := E_b7.keep K16
    replace F_b7_root := F_b7_root.keep K16 nin0
    replace F_b7_following := F_b7_following.keep K16 nin0
    replace F_b7_preceding := F_b7_preceding.keep K16 nin0
    replace F_b7_depth := F_b7_depth.keep K16 nin0
    replace V_b13_b13 := V_b13_b13.keep K16 nin0
    replace V_b13_b22 := V_b13_b22.keep K16 nin0
    replace V_b13_b31 := V_b13_b31.keep K16 nin0
    obtain ⟨rfl⟩ := Q16
    replace K := K.trans K16 all0
    refine own_go st16 ?_
    show own_WP p e below _ T16 (mkF m 168 #[.val (.int x0), .val (.int x1), .val (.int x2), .val (.int x3), .val (.int x4), .val (.int x5), .val (.int x6), .val (.ref b7), .val (.int x8), .val (.int x9), .val (.int x10), .val (.int x11), .val (.int ((x3 &&& (2147483647 : Int32)) % x6)), .val (.int y8), .val (.int y9), .val (.int y10), .val (.int y11), .unset, .unset, .unset, .unset] [(.int rr16)])
    by_cases h168 : rr16 = (0 : Int32)
    · replace hv := (if_pos h168).symm.trans hv
      refine own_go (fun _ => XS.ifYes X16.here hx rfl (pc0 := 168) (pc' := 187) rfl (hb hby at_168) rfl (XT.i0_eq_t h168) (by decide) (by decide)) ?_
      exact b0_187 hw C Z0 rr hP X16 (rfl : T16.heap = T16.heap) N K o_b7_b13_b13 o_b13_b13_b13_b22 o_b13_b22_b13_b31 g_b7 z_b7 E_b7 F_b7_root F_b7_following F_b7_preceding F_b7_depth V_b13_b13 V_b13_b22 V_b13_b31 x0 x1 x2 x3 x4 x5 x6 x8 x9 x10 x11 ((x3 &&& (2147483647 : Int32)) % x6) y8 y9 y10 y11 hv
    · replace hv := (if_neg h168).symm.trans hv
      refine own_go (fun _ => XS.ifNo X16.here hx rfl (hb hby at_168) rfl (XT.i0_eq_f h168)) ?_
      show own_WP p e below _ T16 (mkF m 171 #[.val (.int x0), .val (.int x1), .val (.int x2), .val (.int x3), .val (.int x4), .val (.int x5), .val (.int x6), .val (.ref b7), .val (.int x8), .val (.int x9), .val (.int x10), .val (.int x11), .val (.int ((x3 &&& (2147483647 : Int32)) % x6)), .val (.int y8), .val (.int y9), .val (.int y10), .val (.int y11), .unset, .unset, .unset, .unset] [])
      refine own_go (fun _ => XS.aload X16.here hx rfl (hb hby at_171) rfl rfl) ?_
      show own_WP p e below _ T16 (mkF m 173 #[.val (.int x0), .val (.int x1), .val (.int x2), .val (.int x3), .val (.int x4), .val (.int x5), .val (.int x6), .val (.ref b7), .val (.int x8), .val (.int x9), .val (.int x10), .val (.int x11), .val (.int ((x3 &&& (2147483647 : Int32)) % x6)), .val (.int y8), .val (.int y9), .val (.int y10), .val (.int y11), .unset, .unset, .unset, .unset] [(.ref b7)])
      refine own_go (fun _ => XS.iload X16.here hx rfl (hb hby at_173) rfl) ?_
      show own_WP p e below _ T16 (mkF m 175 #[.val (.int x0), .val (.int x1), .val (.int x2), .val (.int x3), .val (.int x4), .val (.int x5), .val (.int x6), .val (.ref b7), .val (.int x8), .val (.int x9), .val (.int x10), .val (.int x11), .val (.int ((x3 &&& (2147483647 : Int32)) % x6)), .val (.int y8), .val (.int y9), .val (.int y10), .val (.int y11), .unset, .unset, .unset, .unset] [(.int x6), (.ref b7)])
      refine own_go (fun _ => XS.iconst X16.here hx rfl (hb hby at_175)) ?_
      show own_WP p e below _ T16 (mkF m 176 #[.val (.int x0), .val (.int x1), .val (.int x2), .val (.int x3), .val (.int x4), .val (.int x5), .val (.int x6), .val (.ref b7), .val (.int x8), .val (.int x9), .val (.int x10), .val (.int x11), .val (.int ((x3 &&& (2147483647 : Int32)) % x6)), .val (.int y8), .val (.int y9), .val (.int y10), .val (.int y11), .unset, .unset, .unset, .unset] [(.int (1 : Int32)), (.int x6), (.ref b7)])
      refine own_go (fun _ => XS.isub X16.here hx rfl (hb hby at_176) rfl) ?_
      show own_WP p e below _ T16 (mkF m 177 #[.val (.int x0), .val (.int x1), .val (.int x2), .val (.int x3), .val (.int x4), .val (.int x5), .val (.int x6), .val (.ref b7), .val (.int x8), .val (.int x9), .val (.int x10), .val (.int x11), .val (.int ((x3 &&& (2147483647 : Int32)) % x6)), .val (.int y8), .val (.int y9), .val (.int y10), .val (.int y11), .unset, .unset, .unset, .unset] [(.int (x6 - (1 : Int32))), (.ref b7)])
      obtain ⟨rr17, hf17, hv⟩ := own_bind hv
      obtain ⟨T17, v17, L17, X17, ⟨N17, K17, Q17⟩, st17⟩ := own_callV X16 C (a := b7) (argsL := [(.int (x6 - (1 : Int32)))]) (rm5 l Z a0 hw n0 T16.heap (by have q := K.1; omega) (by omega) (by omega) (by omega) (by omega) E_b7 F_b7_root F_b7_following F_b7_preceding F_b7_depth V_b13_b13 V_b13_b22 V_b13_b31 (x6 - (1 : Int32)) rr17 hf17) (hw _ (List.mem_of_getElem? (i := 36) rfl)) (hw _ (List.mem_of_getElem? (i := 31) rfl)) (hw _ (List.mem_of_getElem? (i := 33) rfl)) (hw _ (List.mem_of_getElem? (i := 32) rfl)) (hw _ (List.mem_of_getElem? (i := 2) rfl)) (hw _ (List.mem_of_getElem? (i := 34) rfl)) (by decide) (rfl : T16.heap = T16.heap) E_b7 (W := 0) (pc := 177) (Ls := #[.val (.int x0), .val (.int x1), .val (.int x2), .val (.int x3), .val (.int x4), .val (.int x5), .val (.int x6), .val (.ref b7), .val (.int x8), .val (.int x9), .val (.int x10), .val (.int x11), .val (.int ((x3 &&& (2147483647 : Int32)) % x6)), .val (.int y8), .val (.int y9), .val (.int y10), .val (.int y11), .unset, .unset, .unset, .unset]) rfl (lenOf pd5 rfl) (rest := []) (stk := [(.int (x6 - (1 : Int32))), (.ref b7)]) rfl (Nat.le_of_ble_eq_true rfl) (hb hby at_177) (by decide) (by decide) (by decide) (by decide)
      replace N := Fr.app N N17
      replace E_b7 := E_b7.keep K17
      replace F_b7_root := F_b7_root.keep K17 nin0
      replace F_b7_following := F_b7_following.keep K17 nin0
      replace F_b7_preceding := F_b7_preceding.keep K17 nin0
      replace F_b7_depth := F_b7_depth.keep K17 nin0
      replace V_b13_b13 := V_b13_b13.keep K17 nin0
      replace V_b13_b22 := V_b13_b22.keep K17 nin0
      replace V_b13_b31 := V_b13_b31.keep K17 nin0
      obtain ⟨rfl⟩ := Q17
      replace K := K.trans K17 all0
      refine own_go st17 ?_
      show own_WP p e below _ T17 (mkF m 180 #[.val (.int x0), .val (.int x1), .val (.int x2), .val (.int x3), .val (.int x4), .val (.int x5), .val (.int x6), .val (.ref b7), .val (.int x8), .val (.int x9), .val (.int x10), .val (.int x11), .val (.int ((x3 &&& (2147483647 : Int32)) % x6)), .val (.int y8), .val (.int y9), .val (.int y10), .val (.int y11), .unset, .unset, .unset, .unset] [(.int rr17)])
      by_cases h180 : rr17 = (0 : Int32)
      · replace hv := (if_pos h180).symm.trans hv
        refine own_go (fun _ => XS.ifYes X17.here hx rfl (pc0 := 180) (pc' := 187) rfl (hb hby at_180) rfl (XT.i0_eq_t h180) (by decide) (by decide)) ?_
        exact b0_187 hw C Z0 rr hP X17 (rfl : T17.heap = T17.heap) N K o_b7_b13_b13 o_b13_b13_b13_b22 o_b13_b22_b13_b31 g_b7 z_b7 E_b7 F_b7_root F_b7_following F_b7_preceding F_b7_depth V_b13_b13 V_b13_b22 V_b13_b31 x0 x1 x2 x3 x4 x5 x6 x8 x9 x10 x11 ((x3 &&& (2147483647 : Int32)) % x6) y8 y9 y10 y11 hv
      · replace hv := (if_neg h180).symm.trans hv
        refine own_go (fun _ => XS.ifNo X17.here hx rfl (hb hby at_180) rfl (XT.i0_eq_f h180)) ?_
        show own_WP p e below _ T17 (mkF m 183 #[.val (.int x0), .val (.int x1), .val (.int x2), .val (.int x3), .val (.int x4), .val (.int x5), .val (.int x6), .val (.ref b7), .val (.int x8), .val (.int x9), .val (.int x10), .val (.int x11), .val (.int ((x3 &&& (2147483647 : Int32)) % x6)), .val (.int y8), .val (.int y9), .val (.int y10), .val (.int y11), .unset, .unset, .unset, .unset] [])
        refine own_go (fun _ => XS.iconst X17.here hx rfl (hb hby at_183)) ?_
        show own_WP p e below _ T17 (mkF m 184 #[.val (.int x0), .val (.int x1), .val (.int x2), .val (.int x3), .val (.int x4), .val (.int x5), .val (.int x6), .val (.ref b7), .val (.int x8), .val (.int x9), .val (.int x10), .val (.int x11), .val (.int ((x3 &&& (2147483647 : Int32)) % x6)), .val (.int y8), .val (.int y9), .val (.int y10), .val (.int y11), .unset, .unset, .unset, .unset] [(.int (1 : Int32))])
        refine own_go (fun _ => XS.goto X17.here hx rfl (pc0 := 184) (pc' := 188) rfl (hb hby at_184) (by decide) (by decide)) ?_
        exact b0_188 hw C Z0 rr hP X17 (rfl : T17.heap = T17.heap) N K o_b7_b13_b13 o_b13_b13_b13_b22 o_b13_b22_b13_b31 g_b7 z_b7 E_b7 F_b7_root F_b7_following F_b7_preceding F_b7_depth V_b13_b13 V_b13_b22 V_b13_b31 x0 x1 x2 x3 x4 x5 x6 x8 x9 x10 x11 ((x3 &&& (2147483647 : Int32)) % x6) y8 y9 y10 y11 (1 : Int32) hv
def f0_61 (c_b7_root : Int32) (v_b13_b13 : List Int32) (v_b13_b22 : List Int32) (v_b13_b31 : List Int32) (x3 : Int32) (x4 : Int32) (x5 : Int32) (x6 : Int32) (x8 : Int32) (x9 : Int32) (x10 : Int32) : Option (Int32) := ((f4_0 c_b7_root v_b13_b13 v_b13_b22 v_b13_b31 x8 x9).bind fun rr5 => ((f4_0 c_b7_root (rr5.2.1) (rr5.2.2.1) (rr5.2.2.2) x9 x10).bind fun rr6 => ((f3_0 c_b7_root (rr6.2.1) (rr6.2.2.1) (rr6.2.2.2)).bind fun rr7 => (f0_87 c_b7_root (rr7.1) (rr7.2.1) (rr7.2.2) x3 x4 x5 x6 x8 (rr5.1)))))
set_option maxRecDepth 65536 in
set_option maxHeartbeats 40000000 in
theorem b0_61 {p : Program} {l : Launch} {e : Env} {s : State} {m : MethodId} {args : Array Value} {below : List Frame} {meth : Method} {c : Code} {Z : State} {a0 : Array Value} {h0 : Heap} {n0 : Nat} {P : Option Value → Heap → List Loc → Prop} (hw : ∀ d ∈ tables_1, d.before a0 Z = true) (C : own_Ctx p s m meth c Z x code maxLocals ret) (Z0 : n0 ≤ h0.size)   (rr : Int32) (hP : ∀ v h L, Fr n0 L → Keep h0 h [] → E0 Z h0  rr v h → P v h L)
    {T : State} {locs : List Loc} {h : Heap} {b7 : Nat} {b13_b13 : Nat} {b13_b22 : Nat} {b13_b31 : Nat} {c_b7_root : Int32} {v_b13_b13 : List Int32} {v_b13_b22 : List Int32} {v_b13_b31 : List Int32} (X : Stand p l e room_1 s m args below meth c T locs 4 25) (e0 : T.heap = h) (N : Fr n0 locs) (K : Keep h0 h []) (o_b7_b13_b13 : b7 < b13_b13) (o_b13_b13_b13_b22 : b13_b13 < b13_b22) (o_b13_b22_b13_b31 : b13_b22 < b13_b31) (g_b7 : n0 ≤ b7) (z_b7 : h0.size ≤ b7) (E_b7 : Exa Z h b7 "com/example/gridfare/gridfare/engine/LoweringTree") (F_b7_root : Fld Z h b7 "com/example/gridfare/gridfare/engine/LoweringTree" "root" "I" (.int c_b7_root)) (F_b7_following : Fld Z h b7 "com/example/gridfare/gridfare/engine/LoweringTree" "following" "[I" (.ref b13_b13)) (F_b7_preceding : Fld Z h b7 "com/example/gridfare/gridfare/engine/LoweringTree" "preceding" "[I" (.ref b13_b22)) (F_b7_depth : Fld Z h b7 "com/example/gridfare/gridfare/engine/LoweringTree" "depth" "[I" (.ref b13_b31)) (V_b13_b13 : own_AI Z h b13_b13 .int v_b13_b13) (V_b13_b22 : own_AI Z h b13_b22 .int v_b13_b22) (V_b13_b31 : own_AI Z h b13_b31 .int v_b13_b31) (x0 : Int32) (x1 : Int32) (x2 : Int32) (x3 : Int32) (x4 : Int32) (x5 : Int32) (x6 : Int32) (x8 : Int32) (x9 : Int32) (x10 : Int32) (hv : f0_61 c_b7_root v_b13_b13 v_b13_b22 v_b13_b31 x3 x4 x5 x6 x8 x9 x10 = some rr) :
    own_WP p e below (own_Q s P room_1.cells room_1.slots) T (mkF m 61 #[.val (.int x0), .val (.int x1), .val (.int x2), .val (.int x3), .val (.int x4), .val (.int x5), .val (.int x6), .val (.ref b7), .val (.int x8), .val (.int x9), .val (.int x10), .unset, .unset, .unset, .unset, .unset, .unset, .unset, .unset, .unset, .unset] []) := by
  obtain ⟨hx, hZ, hby, hml, hown, hnm, hret, hlk⟩ := id C
  replace hown : s.vm.findClass "com/example/gridfare/gridfare/engine/LoweringTreePlantPinLaw" = some m.cls := hown
  unfold f0_61 at hv
  show own_WP p e below _ T (mkF m 61 #[.val (.int x0), .val (.int x1), .val (.int x2), .val (.int x3), .val (.int x4), .val (.int x5), .val (.int x6), .val (.ref b7), .val (.int x8), .val (.int x9), .val (.int x10), .unset, .unset, .unset, .unset, .unset, .unset, .unset, .unset, .unset, .unset] [])
  refine own_go (fun _ => XS.aload X.here hx rfl (hb hby at_61) rfl rfl) ?_
  show own_WP p e below _ T (mkF m 63 #[.val (.int x0), .val (.int x1), .val (.int x2), .val (.int x3), .val (.int x4), .val (.int x5), .val (.int x6), .val (.ref b7), .val (.int x8), .val (.int x9), .val (.int x10), .unset, .unset, .unset, .unset, .unset, .unset, .unset, .unset, .unset, .unset] [(.ref b7)])
  refine own_go (fun _ => XS.iload X.here hx rfl (hb hby at_63) rfl) ?_
  show own_WP p e below _ T (mkF m 65 #[.val (.int x0), .val (.int x1), .val (.int x2), .val (.int x3), .val (.int x4), .val (.int x5), .val (.int x6), .val (.ref b7), .val (.int x8), .val (.int x9), .val (.int x10), .unset, .unset, .unset, .unset, .unset, .unset, .unset, .unset, .unset, .unset] [(.int x8), (.ref b7)])
  refine own_go (fun _ => XS.iload X.here hx rfl (hb hby at_65) rfl) ?_
  show own_WP p e below _ T (mkF m 67 #[.val (.int x0), .val (.int x1), .val (.int x2), .val (.int x3), .val (.int x4), .val (.int x5), .val (.int x6), .val (.ref b7), .val (.int x8), .val (.int x9), .val (.int x10), .unset, .unset, .unset, .unset, .unset, .unset, .unset, .unset, .unset, .unset] [(.int x9), (.int x8), (.ref b7)])
  obtain ⟨rr5, hf5, hv⟩ := own_bind hv
  obtain ⟨T5, v5, L5, X5, ⟨N5, K5, Q5⟩, st5⟩ := own_callV X C (a := b7) (argsL := [(.int x8), (.int x9)]) (rm4 l Z a0 hw n0 h (by have q := K.1; omega) (by omega) (by omega) (by omega) (by omega) E_b7 F_b7_root F_b7_following F_b7_preceding F_b7_depth V_b13_b13 V_b13_b22 V_b13_b31 x8 x9 rr5 hf5) (hw _ (List.mem_of_getElem? (i := 25) rfl)) (hw _ (List.mem_of_getElem? (i := 26) rfl)) (hw _ (List.mem_of_getElem? (i := 28) rfl)) (hw _ (List.mem_of_getElem? (i := 27) rfl)) (hw _ (List.mem_of_getElem? (i := 2) rfl)) (hw _ (List.mem_of_getElem? (i := 29) rfl)) (by decide) e0 E_b7 (W := 0) (pc := 67) (Ls := #[.val (.int x0), .val (.int x1), .val (.int x2), .val (.int x3), .val (.int x4), .val (.int x5), .val (.int x6), .val (.ref b7), .val (.int x8), .val (.int x9), .val (.int x10), .unset, .unset, .unset, .unset, .unset, .unset, .unset, .unset, .unset, .unset]) rfl (lenOf pd4 rfl) (rest := []) (stk := [(.int x9), (.int x8), (.ref b7)]) rfl (Nat.le_of_ble_eq_true rfl) (hb hby at_67) (by decide) (by decide) (by decide) (by decide)
  replace N := Fr.app N N5
  replace E_b7 := E_b7.keep K5
  replace F_b7_root := F_b7_root.keep K5 (ninS (own_ne (by omega)) (ninS (own_ne (by omega)) (ninS (own_ne (by omega)) nin0)))
  replace F_b7_following := F_b7_following.keep K5 (ninS (own_ne (by omega)) (ninS (own_ne (by omega)) (ninS (own_ne (by omega)) nin0)))
  replace F_b7_preceding := F_b7_preceding.keep K5 (ninS (own_ne (by omega)) (ninS (own_ne (by omega)) (ninS (own_ne (by omega)) nin0)))
  replace F_b7_depth := F_b7_depth.keep K5 (ninS (own_ne (by omega)) (ninS (own_ne (by omega)) (ninS (own_ne (by omega)) nin0)))
  clear V_b13_b13
  clear V_b13_b22
  clear V_b13_b31
  obtain ⟨rfl, V_b13_b13, V_b13_b22, V_b13_b31⟩ := Q5
  replace K := K.trans K5 (allS (Or.inr (by omega)) (allS (Or.inr (by omega)) (allS (Or.inr (by omega)) all0)))
  refine own_go st5 ?_
  show own_WP p e below _ T5 (mkF m 70 #[.val (.int x0), .val (.int x1), .val (.int x2), .val (.int x3), .val (.int x4), .val (.int x5), .val (.int x6), .val (.ref b7), .val (.int x8), .val (.int x9), .val (.int x10), .unset, .unset, .unset, .unset, .unset, .unset, .unset, .unset, .unset, .unset] [(.int (rr5.1))])
  refine own_go (fun _ => XS.istore X5.here hx rfl (hb hby at_70) rfl (l' := #[.val (.int x0), .val (.int x1), .val (.int x2), .val (.int x3), .val (.int x4), .val (.int x5), .val (.int x6), .val (.ref b7), .val (.int x8), .val (.int x9), .val (.int x10), .val (.int (rr5.1)), .unset, .unset, .unset, .unset, .unset, .unset, .unset, .unset, .unset]) rfl) ?_
  show own_WP p e below _ T5 (mkF m 72 #[.val (.int x0), .val (.int x1), .val (.int x2), .val (.int x3), .val (.int x4), .val (.int x5), .val (.int x6), .val (.ref b7), .val (.int x8), .val (.int x9), .val (.int x10), .val (.int (rr5.1)), .unset, .unset, .unset, .unset, .unset, .unset, .unset, .unset, .unset] [])
  refine own_go (fun _ => XS.aload X5.here hx rfl (hb hby at_72) rfl rfl) ?_
  show own_WP p e below _ T5 (mkF m 74 #[.val (.int x0), .val (.int x1), .val (.int x2), .val (.int x3), .val (.int x4), .val (.int x5), .val (.int x6), .val (.ref b7), .val (.int x8), .val (.int x9), .val (.int x10), .val (.int (rr5.1)), .unset, .unset, .unset, .unset, .unset, .unset, .unset, .unset, .unset] [(.ref b7)])
  refine own_go (fun _ => XS.iload X5.here hx rfl (hb hby at_74) rfl) ?_
  show own_WP p e below _ T5 (mkF m 76 #[.val (.int x0), .val (.int x1), .val (.int x2), .val (.int x3), .val (.int x4), .val (.int x5), .val (.int x6), .val (.ref b7), .val (.int x8), .val (.int x9), .val (.int x10), .val (.int (rr5.1)), .unset, .unset, .unset, .unset, .unset, .unset, .unset, .unset, .unset] [(.int x9), (.ref b7)])
  refine own_go (fun _ => XS.iload X5.here hx rfl (hb hby at_76) rfl) ?_
  show own_WP p e below _ T5 (mkF m 78 #[.val (.int x0), .val (.int x1), .val (.int x2), .val (.int x3), .val (.int x4), .val (.int x5), .val (.int x6), .val (.ref b7), .val (.int x8), .val (.int x9), .val (.int x10), .val (.int (rr5.1)), .unset, .unset, .unset, .unset, .unset, .unset, .unset, .unset, .unset] [(.int x10), (.int x9), (.ref b7)])
  obtain ⟨rr6, hf6, hv⟩ := own_bind hv
  obtain ⟨T6, v6, L6, X6, ⟨N6, K6, Q6⟩, st6⟩ := own_callV X5 C (a := b7) (argsL := [(.int x9), (.int x10)]) (rm4 l Z a0 hw n0 T5.heap (by have q := K.1; omega) (by omega) (by omega) (by omega) (by omega) E_b7 F_b7_root F_b7_following F_b7_preceding F_b7_depth V_b13_b13 V_b13_b22 V_b13_b31 x9 x10 rr6 hf6) (hw _ (List.mem_of_getElem? (i := 25) rfl)) (hw _ (List.mem_of_getElem? (i := 26) rfl)) (hw _ (List.mem_of_getElem? (i := 28) rfl)) (hw _ (List.mem_of_getElem? (i := 27) rfl)) (hw _ (List.mem_of_getElem? (i := 2) rfl)) (hw _ (List.mem_of_getElem? (i := 29) rfl)) (by decide) (rfl : T5.heap = T5.heap) E_b7 (W := 0) (pc := 78) (Ls := #[.val (.int x0), .val (.int x1), .val (.int x2), .val (.int x3), .val (.int x4), .val (.int x5), .val (.int x6), .val (.ref b7), .val (.int x8), .val (.int x9), .val (.int x10), .val (.int (rr5.1)), .unset, .unset, .unset, .unset, .unset, .unset, .unset, .unset, .unset]) rfl (lenOf pd4 rfl) (rest := []) (stk := [(.int x10), (.int x9), (.ref b7)]) rfl (Nat.le_of_ble_eq_true rfl) (hb hby at_78) (by decide) (by decide) (by decide) (by decide)
  replace N := Fr.app N N6
  replace E_b7 := E_b7.keep K6
  replace F_b7_root := F_b7_root.keep K6 (ninS (own_ne (by omega)) (ninS (own_ne (by omega)) (ninS (own_ne (by omega)) nin0)))
  replace F_b7_following := F_b7_following.keep K6 (ninS (own_ne (by omega)) (ninS (own_ne (by omega)) (ninS (own_ne (by omega)) nin0)))
  replace F_b7_preceding := F_b7_preceding.keep K6 (ninS (own_ne (by omega)) (ninS (own_ne (by omega)) (ninS (own_ne (by omega)) nin0)))
  replace F_b7_depth := F_b7_depth.keep K6 (ninS (own_ne (by omega)) (ninS (own_ne (by omega)) (ninS (own_ne (by omega)) nin0)))
  clear V_b13_b13
  clear V_b13_b22
  clear V_b13_b31
  obtain ⟨rfl, V_b13_b13, V_b13_b22, V_b13_b31⟩ := Q6
  replace K := K.trans K6 (allS (Or.inr (by omega)) (allS (Or.inr (by omega)) (allS (Or.inr (by omega)) all0)))
  refine own_go st6 ?_
  show own_WP p e below _ T6 (mkF m 81 #[.val (.int x0), .val (.int x1), .val (.int x2), .val (.int x3), .val (.int x4), .val (.int x5), .val (.int x6), .val (.ref b7), .val (.int x8), .val (.int x9), .val (.int x10), .val (.int (rr5.1)), .unset, .unset, .unset, .unset, .unset, .unset, .unset, .unset, .unset] [(.int (rr6.1))])
  refine own_go (fun _ => XS.pop X6.here hx rfl (hb hby at_81) rfl rfl) ?_
  show own_WP p e below _ T6 (mkF m 82 #[.val (.int x0), .val (.int x1), .val (.int x2), .val (.int x3), .val (.int x4), .val (.int x5), .val (.int x6), .val (.ref b7), .val (.int x8), .val (.int x9), .val (.int x10), .val (.int (rr5.1)), .unset, .unset, .unset, .unset, .unset, .unset, .unset, .unset, .unset] [])
  refine own_go (fun _ => XS.aload X6.here hx rfl (hb hby at_82) rfl rfl) ?_
  show own_WP p e below _ T6 (mkF m 84 #[.val (.int x0), .val (.int x1), .val (.int x2), .val (.int x3), .val (.int x4), .val (.int x5), .val (.int x6), .val (.ref b7), .val (.int x8), .val (.int x9), .val (.int x10), .val (.int (rr5.1)), .unset, .unset, .unset, .unset, .unset, .unset, .unset, .unset, .unset] [(.ref b7)])
  obtain ⟨rr7, hf7, hv⟩ := own_bind hv
  obtain ⟨T7, v7, L7, X7, ⟨N7, K7, Q7⟩, st7⟩ := own_callV X6 C (a := b7) (argsL := []) (rm3 l Z a0 hw n0 T6.heap (by have q := K.1; omega) (by omega) (by omega) (by omega) (by omega) E_b7 F_b7_root F_b7_following F_b7_preceding F_b7_depth V_b13_b13 V_b13_b22 V_b13_b31 rr7 hf7) (hw _ (List.mem_of_getElem? (i := 35) rfl)) (hw _ (List.mem_of_getElem? (i := 19) rfl)) (hw _ (List.mem_of_getElem? (i := 21) rfl)) (hw _ (List.mem_of_getElem? (i := 20) rfl)) (hw _ (List.mem_of_getElem? (i := 2) rfl)) (hw _ (List.mem_of_getElem? (i := 22) rfl)) (by decide) (rfl : T6.heap = T6.heap) E_b7 (W := 0) (pc := 84) (Ls := #[.val (.int x0), .val (.int x1), .val (.int x2), .val (.int x3), .val (.int x4), .val (.int x5), .val (.int x6), .val (.ref b7), .val (.int x8), .val (.int x9), .val (.int x10), .val (.int (rr5.1)), .unset, .unset, .unset, .unset, .unset, .unset, .unset, .unset, .unset]) rfl (lenOf pd3 rfl) (rest := []) (stk := [(.ref b7)]) rfl (Nat.le_of_ble_eq_true rfl) (hb hby at_84) (by decide) (by decide) (by decide) (by decide)
  replace N := Fr.app N N7
  replace E_b7 := E_b7.keep K7
  replace F_b7_root := F_b7_root.keep K7 (ninS (own_ne (by omega)) (ninS (own_ne (by omega)) (ninS (own_ne (by omega)) nin0)))
  replace F_b7_following := F_b7_following.keep K7 (ninS (own_ne (by omega)) (ninS (own_ne (by omega)) (ninS (own_ne (by omega)) nin0)))
  replace F_b7_preceding := F_b7_preceding.keep K7 (ninS (own_ne (by omega)) (ninS (own_ne (by omega)) (ninS (own_ne (by omega)) nin0)))
  replace F_b7_depth := F_b7_depth.keep K7 (ninS (own_ne (by omega)) (ninS (own_ne (by omega)) (ninS (own_ne (by omega)) nin0)))
  clear V_b13_b13
  clear V_b13_b22
  clear V_b13_b31
  obtain ⟨rfl, V_b13_b13, V_b13_b22, V_b13_b31⟩ := Q7
  replace K := K.trans K7 (allS (Or.inr (by omega)) (allS (Or.inr (by omega)) (allS (Or.inr (by omega)) all0)))
  refine own_go st7 ?_
  exact b0_87 hw C Z0 rr hP X7 (rfl : T7.heap = T7.heap) N K o_b7_b13_b13 o_b13_b13_b13_b22 o_b13_b22_b13_b31 g_b7 z_b7 E_b7 F_b7_root F_b7_following F_b7_preceding F_b7_depth V_b13_b13 V_b13_b22 V_b13_b31 x0 x1 x2 x3 x4 x5 x6 x8 x9 x10 (rr5.1) hv
def f0_16 (c_b7_root : Int32) (v_b13_b13 : List Int32) (v_b13_b22 : List Int32) (v_b13_b31 : List Int32) (x1 : Int32) (x2 : Int32) (x3 : Int32) (x4 : Int32) (x5 : Int32) (x6 : Int32) : Option (Int32) := (if x6 = (0 : Int32) then none else (if (x6 - (1 : Int32)) = (0 : Int32) then none else (if x6 = (0 : Int32) then none else (own_let (((((x1 &&& (65535 : Int32)) % x6) + (1 : Int32)) + ((x2 &&& (2147483647 : Int32)) % (x6 - (1 : Int32)))) % x6) fun y3 => (if (x6 + (1 : Int32)) = (0 : Int32) then none else (own_let (((XT.ushr x1 (16 : Int32)) &&& (32767 : Int32)) % (x6 + (1 : Int32))) fun y4 => (f0_61 c_b7_root v_b13_b13 v_b13_b22 v_b13_b31 x3 x4 x5 x6 ((x1 &&& (65535 : Int32)) % x6) y3 y4)))))))
set_option maxRecDepth 65536 in
set_option maxHeartbeats 40000000 in
theorem b0_16 {p : Program} {l : Launch} {e : Env} {s : State} {m : MethodId} {args : Array Value} {below : List Frame} {meth : Method} {c : Code} {Z : State} {a0 : Array Value} {h0 : Heap} {n0 : Nat} {P : Option Value → Heap → List Loc → Prop} (hw : ∀ d ∈ tables_1, d.before a0 Z = true) (C : own_Ctx p s m meth c Z x code maxLocals ret) (Z0 : n0 ≤ h0.size)   (rr : Int32) (hP : ∀ v h L, Fr n0 L → Keep h0 h [] → E0 Z h0  rr v h → P v h L)
    {T : State} {locs : List Loc} {h : Heap} {b7 : Nat} {b13_b13 : Nat} {b13_b22 : Nat} {b13_b31 : Nat} {c_b7_root : Int32} {v_b13_b13 : List Int32} {v_b13_b22 : List Int32} {v_b13_b31 : List Int32} (X : Stand p l e room_1 s m args below meth c T locs 4 25) (e0 : T.heap = h) (N : Fr n0 locs) (K : Keep h0 h []) (o_b7_b13_b13 : b7 < b13_b13) (o_b13_b13_b13_b22 : b13_b13 < b13_b22) (o_b13_b22_b13_b31 : b13_b22 < b13_b31) (g_b7 : n0 ≤ b7) (z_b7 : h0.size ≤ b7) (E_b7 : Exa Z h b7 "com/example/gridfare/gridfare/engine/LoweringTree") (F_b7_root : Fld Z h b7 "com/example/gridfare/gridfare/engine/LoweringTree" "root" "I" (.int c_b7_root)) (F_b7_following : Fld Z h b7 "com/example/gridfare/gridfare/engine/LoweringTree" "following" "[I" (.ref b13_b13)) (F_b7_preceding : Fld Z h b7 "com/example/gridfare/gridfare/engine/LoweringTree" "preceding" "[I" (.ref b13_b22)) (F_b7_depth : Fld Z h b7 "com/example/gridfare/gridfare/engine/LoweringTree" "depth" "[I" (.ref b13_b31)) (V_b13_b13 : own_AI Z h b13_b13 .int v_b13_b13) (V_b13_b22 : own_AI Z h b13_b22 .int v_b13_b22) (V_b13_b31 : own_AI Z h b13_b31 .int v_b13_b31) (x0 : Int32) (x1 : Int32) (x2 : Int32) (x3 : Int32) (x4 : Int32) (x5 : Int32) (x6 : Int32) (hv : f0_16 c_b7_root v_b13_b13 v_b13_b22 v_b13_b31 x1 x2 x3 x4 x5 x6 = some rr) :
    own_WP p e below (own_Q s P room_1.cells room_1.slots) T (mkF m 16 #[.val (.int x0), .val (.int x1), .val (.int x2), .val (.int x3), .val (.int x4), .val (.int x5), .val (.int x6), .unset, .unset, .unset, .unset, .unset, .unset, .unset, .unset, .unset, .unset, .unset, .unset, .unset, .unset] [(.ref b7)]) := by
  obtain ⟨hx, hZ, hby, hml, hown, hnm, hret, hlk⟩ := id C
  replace hown : s.vm.findClass "com/example/gridfare/gridfare/engine/LoweringTreePlantPinLaw" = some m.cls := hown
  unfold f0_16 at hv
  show own_WP p e below _ T (mkF m 16 #[.val (.int x0), .val (.int x1), .val (.int x2), .val (.int x3), .val (.int x4), .val (.int x5), .val (.int x6), .unset, .unset, .unset, .unset, .unset, .unset, .unset, .unset, .unset, .unset, .unset, .unset, .unset, .unset] [(.ref b7)])
  refine own_go (fun _ => XS.astore X.here hx rfl (hb hby at_16) rfl rfl (l' := #[.val (.int x0), .val (.int x1), .val (.int x2), .val (.int x3), .val (.int x4), .val (.int x5), .val (.int x6), .val (.ref b7), .unset, .unset, .unset, .unset, .unset, .unset, .unset, .unset, .unset, .unset, .unset, .unset, .unset]) rfl) ?_
  show own_WP p e below _ T (mkF m 18 #[.val (.int x0), .val (.int x1), .val (.int x2), .val (.int x3), .val (.int x4), .val (.int x5), .val (.int x6), .val (.ref b7), .unset, .unset, .unset, .unset, .unset, .unset, .unset, .unset, .unset, .unset, .unset, .unset, .unset] [])
  refine own_go (fun _ => XS.iloadN X.here hx rfl (hb hby at_18) rfl) ?_
  show own_WP p e below _ T (mkF m 19 #[.val (.int x0), .val (.int x1), .val (.int x2), .val (.int x3), .val (.int x4), .val (.int x5), .val (.int x6), .val (.ref b7), .unset, .unset, .unset, .unset, .unset, .unset, .unset, .unset, .unset, .unset, .unset, .unset, .unset] [(.int x1)])
  refine own_go (X.ldcInt hx hown (mvT hZ (hw _ (List.mem_of_getElem? (i := 23) rfl))) (g := (mkF m 19 #[.val (.int x0), .val (.int x1), .val (.int x2), .val (.int x3), .val (.int x4), .val (.int x5), .val (.int x6), .val (.ref b7), .unset, .unset, .unset, .unset, .unset, .unset, .unset, .unset, .unset, .unset, .unset, .unset, .unset] [(.int x1)])) rfl (hb hby at_19)) ?_
  show own_WP p e below _ T (mkF m 21 #[.val (.int x0), .val (.int x1), .val (.int x2), .val (.int x3), .val (.int x4), .val (.int x5), .val (.int x6), .val (.ref b7), .unset, .unset, .unset, .unset, .unset, .unset, .unset, .unset, .unset, .unset, .unset, .unset, .unset] [(.int (65535 : Int32)), (.int x1)])
  refine own_go (fun _ => XS.iand X.here hx rfl (hb hby at_21) rfl) ?_
  show own_WP p e below _ T (mkF m 22 #[.val (.int x0), .val (.int x1), .val (.int x2), .val (.int x3), .val (.int x4), .val (.int x5), .val (.int x6), .val (.ref b7), .unset, .unset, .unset, .unset, .unset, .unset, .unset, .unset, .unset, .unset, .unset, .unset, .unset] [(.int (x1 &&& (65535 : Int32)))])
  refine own_go (fun _ => XS.iload X.here hx rfl (hb hby at_22) rfl) ?_
  show own_WP p e below _ T (mkF m 24 #[.val (.int x0), .val (.int x1), .val (.int x2), .val (.int x3), .val (.int x4), .val (.int x5), .val (.int x6), .val (.ref b7), .unset, .unset, .unset, .unset, .unset, .unset, .unset, .unset, .unset, .unset, .unset, .unset, .unset] [(.int x6), (.int (x1 &&& (65535 : Int32)))])
  by_cases h24 : x6 = (0 : Int32)
  · cases ((if_pos h24).symm.trans hv)
  replace hv := (if_neg h24).symm.trans hv
  refine own_go (fun _ => iremM X hx rfl (hb hby at_24) rfl h24) ?_
  show own_WP p e below _ T (mkF m 25 #[.val (.int x0), .val (.int x1), .val (.int x2), .val (.int x3), .val (.int x4), .val (.int x5), .val (.int x6), .val (.ref b7), .unset, .unset, .unset, .unset, .unset, .unset, .unset, .unset, .unset, .unset, .unset, .unset, .unset] [(.int ((x1 &&& (65535 : Int32)) % x6))])
  refine own_go (fun _ => XS.istore X.here hx rfl (hb hby at_25) rfl (l' := #[.val (.int x0), .val (.int x1), .val (.int x2), .val (.int x3), .val (.int x4), .val (.int x5), .val (.int x6), .val (.ref b7), .val (.int ((x1 &&& (65535 : Int32)) % x6)), .unset, .unset, .unset, .unset, .unset, .unset, .unset, .unset, .unset, .unset, .unset, .unset]) rfl) ?_
  show own_WP p e below _ T (mkF m 27 #[.val (.int x0), .val (.int x1), .val (.int x2), .val (.int x3), .val (.int x4), .val (.int x5), .val (.int x6), .val (.ref b7), .val (.int ((x1 &&& (65535 : Int32)) % x6)), .unset, .unset, .unset, .unset, .unset, .unset, .unset, .unset, .unset, .unset, .unset, .unset] [])
  refine own_go (fun _ => XS.iload X.here hx rfl (hb hby at_27) rfl) ?_
  show own_WP p e below _ T (mkF m 29 #[.val (.int x0), .val (.int x1), .val (.int x2), .val (.int x3), .val (.int x4), .val (.int x5), .val (.int x6), .val (.ref b7), .val (.int ((x1 &&& (65535 : Int32)) % x6)), .unset, .unset, .unset, .unset, .unset, .unset, .unset, .unset, .unset, .unset, .unset, .unset] [(.int ((x1 &&& (65535 : Int32)) % x6))])
  refine own_go (fun _ => XS.iconst X.here hx rfl (hb hby at_29)) ?_
  show own_WP p e below _ T (mkF m 30 #[.val (.int x0), .val (.int x1), .val (.int x2), .val (.int x3), .val (.int x4), .val (.int x5), .val (.int x6), .val (.ref b7), .val (.int ((x1 &&& (65535 : Int32)) % x6)), .unset, .unset, .unset, .unset, .unset, .unset, .unset, .unset, .unset, .unset, .unset, .unset] [(.int (1 : Int32)), (.int ((x1 &&& (65535 : Int32)) % x6))])
  refine own_go (fun _ => XS.iadd X.here hx rfl (hb hby at_30) rfl) ?_
  show own_WP p e below _ T (mkF m 31 #[.val (.int x0), .val (.int x1), .val (.int x2), .val (.int x3), .val (.int x4), .val (.int x5), .val (.int x6), .val (.ref b7), .val (.int ((x1 &&& (65535 : Int32)) % x6)), .unset, .unset, .unset, .unset, .unset, .unset, .unset, .unset, .unset, .unset, .unset, .unset] [(.int (((x1 &&& (65535 : Int32)) % x6) + (1 : Int32)))])
  refine own_go (fun _ => XS.iloadN X.here hx rfl (hb hby at_31) rfl) ?_
  show own_WP p e below _ T (mkF m 32 #[.val (.int x0), .val (.int x1), .val (.int x2), .val (.int x3), .val (.int x4), .val (.int x5), .val (.int x6), .val (.ref b7), .val (.int ((x1 &&& (65535 : Int32)) % x6)), .unset, .unset, .unset, .unset, .unset, .unset, .unset, .unset, .unset, .unset, .unset, .unset] [(.int x2), (.int (((x1 &&& (65535 : Int32)) % x6) + (1 : Int32)))])
  refine own_go (X.ldcInt hx hown (mvT hZ (hw _ (List.mem_of_getElem? (i := 24) rfl))) (g := (mkF m 32 #[.val (.int x0), .val (.int x1), .val (.int x2), .val (.int x3), .val (.int x4), .val (.int x5), .val (.int x6), .val (.ref b7), .val (.int ((x1 &&& (65535 : Int32)) % x6)), .unset, .unset, .unset, .unset, .unset, .unset, .unset, .unset, .unset, .unset, .unset, .unset] [(.int x2), (.int (((x1 &&& (65535 : Int32)) % x6) + (1 : Int32)))])) rfl (hb hby at_32)) ?_
  show own_WP p e below _ T (mkF m 34 #[.val (.int x0), .val (.int x1), .val (.int x2), .val (.int x3), .val (.int x4), .val (.int x5), .val (.int x6), .val (.ref b7), .val (.int ((x1 &&& (65535 : Int32)) % x6)), .unset, .unset, .unset, .unset, .unset, .unset, .unset, .unset, .unset, .unset, .unset, .unset] [(.int (2147483647 : Int32)), (.int x2), (.int (((x1 &&& (65535 : Int32)) % x6) + (1 : Int32)))])
  refine own_go (fun _ => XS.iand X.here hx rfl (hb hby at_34) rfl) ?_
  show own_WP p e below _ T (mkF m 35 #[.val (.int x0), .val (.int x1), .val (.int x2), .val (.int x3), .val (.int x4), .val (.int x5), .val (.int x6), .val (.ref b7), .val (.int ((x1 &&& (65535 : Int32)) % x6)), .unset, .unset, .unset, .unset, .unset, .unset, .unset, .unset, .unset, .unset, .unset, .unset] [(.int (x2 &&& (2147483647 : Int32))), (.int (((x1 &&& (65535 : Int32)) % x6) + (1 : Int32)))])
  refine own_go (fun _ => XS.iload X.here hx rfl (hb hby at_35) rfl) ?_
  show own_WP p e below _ T (mkF m 37 #[.val (.int x0), .val (.int x1), .val (.int x2), .val (.int x3), .val (.int x4), .val (.int x5), .val (.int x6), .val (.ref b7), .val (.int ((x1 &&& (65535 : Int32)) % x6)), .unset, .unset, .unset, .unset, .unset, .unset, .unset, .unset, .unset, .unset, .unset, .unset] [(.int x6), (.int (x2 &&& (2147483647 : Int32))), (.int (((x1 &&& (65535 : Int32)) % x6) + (1 : Int32)))])
  refine own_go (fun _ => XS.iconst X.here hx rfl (hb hby at_37)) ?_
  show own_WP p e below _ T (mkF m 38 #[.val (.int x0), .val (.int x1), .val (.int x2), .val (.int x3), .val (.int x4), .val (.int x5), .val (.int x6), .val (.ref b7), .val (.int ((x1 &&& (65535 : Int32)) % x6)), .unset, .unset, .unset, .unset, .unset, .unset, .unset, .unset, .unset, .unset, .unset, .unset] [(.int (1 : Int32)), (.int x6), (.int (x2 &&& (2147483647 : Int32))), (.int (((x1 &&& (65535 : Int32)) % x6) + (1 : Int32)))])
  refine own_go (fun _ => XS.isub X.here hx rfl (hb hby at_38) rfl) ?_
  show own_WP p e below _ T (mkF m 39 #[.val (.int x0), .val (.int x1), .val (.int x2), .val (.int x3), .val (.int x4), .val (.int x5), .val (.int x6), .val (.ref b7), .val (.int ((x1 &&& (65535 : Int32)) % x6)), .unset, .unset, .unset, .unset, .unset, .unset, .unset, .unset, .unset, .unset, .unset, .unset] [(.int (x6 - (1 : Int32))), (.int (x2 &&& (2147483647 : Int32))), (.int (((x1 &&& (65535 : Int32)) % x6) + (1 : Int32)))])
  by_cases h39 : (x6 - (1 : Int32)) = (0 : Int32)
  · cases ((if_pos h39).symm.trans hv)
  replace hv := (if_neg h39).symm.trans hv
  refine own_go (fun _ => iremM X hx rfl (hb hby at_39) rfl h39) ?_
  show own_WP p e below _ T (mkF m 40 #[.val (.int x0), .val (.int x1), .val (.int x2), .val (.int x3), .val (.int x4), .val (.int x5), .val (.int x6), .val (.ref b7), .val (.int ((x1 &&& (65535 : Int32)) % x6)), .unset, .unset, .unset, .unset, .unset, .unset, .unset, .unset, .unset, .unset, .unset, .unset] [(.int ((x2 &&& (2147483647 : Int32)) % (x6 - (1 : Int32)))), (.int (((x1 &&& (65535 : Int32)) % x6) + (1 : Int32)))])
  refine own_go (fun _ => XS.iadd X.here hx rfl (hb hby at_40) rfl) ?_
  show own_WP p e below _ T (mkF m 41 #[.val (.int x0), .val (.int x1), .val (.int x2), .val (.int x3), .val (.int x4), .val (.int x5), .val (.int x6), .val (.ref b7), .val (.int ((x1 &&& (65535 : Int32)) % x6)), .unset, .unset, .unset, .unset, .unset, .unset, .unset, .unset, .unset, .unset, .unset, .unset] [(.int ((((x1 &&& (65535 : Int32)) % x6) + (1 : Int32)) + ((x2 &&& (2147483647 : Int32)) % (x6 - (1 : Int32)))))])
  refine own_go (fun _ => XS.iload X.here hx rfl (hb hby at_41) rfl) ?_
  show own_WP p e below _ T (mkF m 43 #[.val (.int x0), .val (.int x1), .val (.int x2), .val (.int x3), .val (.int x4), .val (.int x5), .val (.int x6), .val (.ref b7), .val (.int ((x1 &&& (65535 : Int32)) % x6)), .unset, .unset, .unset, .unset, .unset, .unset, .unset, .unset, .unset, .unset, .unset, .unset] [(.int x6), (.int ((((x1 &&& (65535 : Int32)) % x6) + (1 : Int32)) + ((x2 &&& (2147483647 : Int32)) % (x6 - (1 : Int32)))))])
  by_cases h43 : x6 = (0 : Int32)
  · cases ((if_pos h43).symm.trans hv)
  replace hv := (if_neg h43).symm.trans hv
  refine own_go (fun _ => iremM X hx rfl (hb hby at_43) rfl h43) ?_
  show own_WP p e below _ T (mkF m 44 #[.val (.int x0), .val (.int x1), .val (.int x2), .val (.int x3), .val (.int x4), .val (.int x5), .val (.int x6), .val (.ref b7), .val (.int ((x1 &&& (65535 : Int32)) % x6)), .unset, .unset, .unset, .unset, .unset, .unset, .unset, .unset, .unset, .unset, .unset, .unset] [(.int (((((x1 &&& (65535 : Int32)) % x6) + (1 : Int32)) + ((x2 &&& (2147483647 : Int32)) % (x6 - (1 : Int32)))) % x6))])
  generalize (((((x1 &&& (65535 : Int32)) % x6) + (1 : Int32)) + ((x2 &&& (2147483647 : Int32)) % (x6 - (1 : Int32)))) % x6) = y3 at hv ⊢
  replace hv := own_letE hv
  show own_WP p e below _ T (mkF m 44 #[.val (.int x0), .val (.int x1), .val (.int x2), .val (.int x3), .val (.int x4), .val (.int x5), .val (.int x6), .val (.ref b7), .val (.int ((x1 &&& (65535 : Int32)) % x6)), .unset, .unset, .unset, .unset, .unset, .unset, .unset, .unset, .unset, .unset, .unset, .unset] [(.int y3)])
  refine own_go (fun _ => XS.istore X.here hx rfl (hb hby at_44) rfl (l' := #[.val (.int x0), .val (.int x1), .val (.int x2), .val (.int x3), .val (.int x4), .val (.int x5), .val (.int x6), .val (.ref b7), .val (.int ((x1 &&& (65535 : Int32)) % x6)), .val (.int y3), .unset, .unset, .unset, .unset, .unset, .unset, .unset, .unset, .unset, .unset, .unset]) rfl) ?_
  show own_WP p e below _ T (mkF m 46 #[.val (.int x0), .val (.int x1), .val (.int x2), .val (.int x3), .val (.int x4), .val (.int x5), .val (.int x6), .val (.ref b7), .val (.int ((x1 &&& (65535 : Int32)) % x6)), .val (.int y3), .unset, .unset, .unset, .unset, .unset, .unset, .unset, .unset, .unset, .unset, .unset] [])
  refine own_go (fun _ => XS.iloadN X.here hx rfl (hb hby at_46) rfl) ?_
  show own_WP p e below _ T (mkF m 47 #[.val (.int x0), .val (.int x1), .val (.int x2), .val (.int x3), .val (.int x4), .val (.int x5), .val (.int x6), .val (.ref b7), .val (.int ((x1 &&& (65535 : Int32)) % x6)), .val (.int y3), .unset, .unset, .unset, .unset, .unset, .unset, .unset, .unset, .unset, .unset, .unset] [(.int x1)])
  refine own_go (fun _ => XS.bipush X.here hx rfl (hb hby at_47)) ?_
  show own_WP p e below _ T (mkF m 49 #[.val (.int x0), .val (.int x1), .val (.int x2), .val (.int x3), .val (.int x4), .val (.int x5), .val (.int x6), .val (.ref b7), .val (.int ((x1 &&& (65535 : Int32)) % x6)), .val (.int y3), .unset, .unset, .unset, .unset, .unset, .unset, .unset, .unset, .unset, .unset, .unset] [(.int (16 : Int32)), (.int x1)])
  refine own_go (fun _ => XT.iushr X.here hx rfl (hb hby at_49) rfl) ?_
  show own_WP p e below _ T (mkF m 50 #[.val (.int x0), .val (.int x1), .val (.int x2), .val (.int x3), .val (.int x4), .val (.int x5), .val (.int x6), .val (.ref b7), .val (.int ((x1 &&& (65535 : Int32)) % x6)), .val (.int y3), .unset, .unset, .unset, .unset, .unset, .unset, .unset, .unset, .unset, .unset, .unset] [(.int (XT.ushr x1 (16 : Int32)))])
  refine own_go (fun _ => XS.sipush X.here hx rfl (hb hby at_50)) ?_
  show own_WP p e below _ T (mkF m 53 #[.val (.int x0), .val (.int x1), .val (.int x2), .val (.int x3), .val (.int x4), .val (.int x5), .val (.int x6), .val (.ref b7), .val (.int ((x1 &&& (65535 : Int32)) % x6)), .val (.int y3), .unset, .unset, .unset, .unset, .unset, .unset, .unset, .unset, .unset, .unset, .unset] [(.int (32767 : Int32)), (.int (XT.ushr x1 (16 : Int32)))])
  refine own_go (fun _ => XS.iand X.here hx rfl (hb hby at_53) rfl) ?_
  show own_WP p e below _ T (mkF m 54 #[.val (.int x0), .val (.int x1), .val (.int x2), .val (.int x3), .val (.int x4), .val (.int x5), .val (.int x6), .val (.ref b7), .val (.int ((x1 &&& (65535 : Int32)) % x6)), .val (.int y3), .unset, .unset, .unset, .unset, .unset, .unset, .unset, .unset, .unset, .unset, .unset] [(.int ((XT.ushr x1 (16 : Int32)) &&& (32767 : Int32)))])
  refine own_go (fun _ => XS.iload X.here hx rfl (hb hby at_54) rfl) ?_
  show own_WP p e below _ T (mkF m 56 #[.val (.int x0), .val (.int x1), .val (.int x2), .val (.int x3), .val (.int x4), .val (.int x5), .val (.int x6), .val (.ref b7), .val (.int ((x1 &&& (65535 : Int32)) % x6)), .val (.int y3), .unset, .unset, .unset, .unset, .unset, .unset, .unset, .unset, .unset, .unset, .unset] [(.int x6), (.int ((XT.ushr x1 (16 : Int32)) &&& (32767 : Int32)))])
  refine own_go (fun _ => XS.iconst X.here hx rfl (hb hby at_56)) ?_
  show own_WP p e below _ T (mkF m 57 #[.val (.int x0), .val (.int x1), .val (.int x2), .val (.int x3), .val (.int x4), .val (.int x5), .val (.int x6), .val (.ref b7), .val (.int ((x1 &&& (65535 : Int32)) % x6)), .val (.int y3), .unset, .unset, .unset, .unset, .unset, .unset, .unset, .unset, .unset, .unset, .unset] [(.int (1 : Int32)), (.int x6), (.int ((XT.ushr x1 (16 : Int32)) &&& (32767 : Int32)))])
  refine own_go (fun _ => XS.iadd X.here hx rfl (hb hby at_57) rfl) ?_
  show own_WP p e below _ T (mkF m 58 #[.val (.int x0), .val (.int x1), .val (.int x2), .val (.int x3), .val (.int x4), .val (.int x5), .val (.int x6), .val (.ref b7), .val (.int ((x1 &&& (65535 : Int32)) % x6)), .val (.int y3), .unset, .unset, .unset, .unset, .unset, .unset, .unset, .unset, .unset, .unset, .unset] [(.int (x6 + (1 : Int32))), (.int ((XT.ushr x1 (16 : Int32)) &&& (32767 : Int32)))])
  by_cases h58 : (x6 + (1 : Int32)) = (0 : Int32)
  · cases ((if_pos h58).symm.trans hv)
  replace hv := (if_neg h58).symm.trans hv
  refine own_go (fun _ => iremM X hx rfl (hb hby at_58) rfl h58) ?_
  show own_WP p e below _ T (mkF m 59 #[.val (.int x0), .val (.int x1), .val (.int x2), .val (.int x3), .val (.int x4), .val (.int x5), .val (.int x6), .val (.ref b7), .val (.int ((x1 &&& (65535 : Int32)) % x6)), .val (.int y3), .unset, .unset, .unset, .unset, .unset, .unset, .unset, .unset, .unset, .unset, .unset] [(.int (((XT.ushr x1 (16 : Int32)) &&& (32767 : Int32)) % (x6 + (1 : Int32))))])
  generalize (((XT.ushr x1 (16 : Int32)) &&& (32767 : Int32)) % (x6 + (1 : Int32))) = y4 at hv ⊢
  replace hv := own_letE hv
  show own_WP p e below _ T (mkF m 59 #[.val (.int x0), .val (.int x1), .val (.int x2), .val (.int x3), .val (.int x4), .val (.int x5), .val (.int x6), .val (.ref b7), .val (.int ((x1 &&& (65535 : Int32)) % x6)), .val (.int y3), .unset, .unset, .unset, .unset, .unset, .unset, .unset, .unset, .unset, .unset, .unset] [(.int y4)])
  refine own_go (fun _ => XS.istore X.here hx rfl (hb hby at_59) rfl (l' := #[.val (.int x0), .val (.int x1), .val (.int x2), .val (.int x3), .val (.int x4), .val (.int x5), .val (.int x6), .val (.ref b7), .val (.int ((x1 &&& (65535 : Int32)) % x6)), .val (.int y3), .val (.int y4), .unset, .unset, .unset, .unset, .unset, .unset, .unset, .unset, .unset, .unset]) rfl) ?_
  exact b0_61 hw C Z0 rr hP X e0 N K o_b7_b13_b13 o_b13_b13_b13_b22 o_b13_b22_b13_b31 g_b7 z_b7 E_b7 F_b7_root F_b7_following F_b7_preceding F_b7_depth V_b13_b13 V_b13_b22 V_b13_b31 x0 x1 x2 x3 x4 x5 x6 ((x1 &&& (65535 : Int32)) % x6) y3 y4 hv
def f0_0 (x0 : Int32) (x1 : Int32) (x2 : Int32) (x3 : Int32) (x4 : Int32) (x5 : Int32) : Option (Int32) := ((f1_0 ((3 : Int32) + (x0 &&& (3 : Int32)))).bind fun rr2 => (f0_16 (rr2.1) (rr2.2.1) (rr2.2.2.1) (rr2.2.2.2) x1 x2 x3 x4 x5 ((3 : Int32) + (x0 &&& (3 : Int32)))))
set_option maxRecDepth 65536 in
set_option maxHeartbeats 40000000 in
theorem b0_0 {p : Program} {l : Launch} {e : Env} {s : State} {m : MethodId} {args : Array Value} {below : List Frame} {meth : Method} {c : Code} {Z : State} {a0 : Array Value} {h0 : Heap} {n0 : Nat} {P : Option Value → Heap → List Loc → Prop} (hw : ∀ d ∈ tables_1, d.before a0 Z = true) (C : own_Ctx p s m meth c Z x code maxLocals ret) (Z0 : n0 ≤ h0.size)   (rr : Int32) (hP : ∀ v h L, Fr n0 L → Keep h0 h [] → E0 Z h0  rr v h → P v h L)
    {T : State} {locs : List Loc} {h : Heap} (X : Stand p l e room_1 s m args below meth c T locs 0 0) (e0 : T.heap = h) (N : Fr n0 locs) (K : Keep h0 h []) (x0 : Int32) (x1 : Int32) (x2 : Int32) (x3 : Int32) (x4 : Int32) (x5 : Int32) (hv : f0_0 x0 x1 x2 x3 x4 x5 = some rr) :
    own_WP p e below (own_Q s P room_1.cells room_1.slots) T (mkF m 0 #[.val (.int x0), .val (.int x1), .val (.int x2), .val (.int x3), .val (.int x4), .val (.int x5), .unset, .unset, .unset, .unset, .unset, .unset, .unset, .unset, .unset, .unset, .unset, .unset, .unset, .unset, .unset] []) := by
  obtain ⟨hx, hZ, hby, hml, hown, hnm, hret, hlk⟩ := id C
  replace hown : s.vm.findClass "com/example/gridfare/gridfare/engine/LoweringTreePlantPinLaw" = some m.cls := hown
  unfold f0_0 at hv
  show own_WP p e below _ T (mkF m 0 #[.val (.int x0), .val (.int x1), .val (.int x2), .val (.int x3), .val (.int x4), .val (.int x5), .unset, .unset, .unset, .unset, .unset, .unset, .unset, .unset, .unset, .unset, .unset, .unset, .unset, .unset, .unset] [])
  refine own_go (fun _ => XS.iconst X.here hx rfl (hb hby at_0)) ?_
  show own_WP p e below _ T (mkF m 1 #[.val (.int x0), .val (.int x1), .val (.int x2), .val (.int x3), .val (.int x4), .val (.int x5), .unset, .unset, .unset, .unset, .unset, .unset, .unset, .unset, .unset, .unset, .unset, .unset, .unset, .unset, .unset] [(.int (3 : Int32))])
  refine own_go (fun _ => XS.iloadN X.here hx rfl (hb hby at_1) rfl) ?_
  show own_WP p e below _ T (mkF m 2 #[.val (.int x0), .val (.int x1), .val (.int x2), .val (.int x3), .val (.int x4), .val (.int x5), .unset, .unset, .unset, .unset, .unset, .unset, .unset, .unset, .unset, .unset, .unset, .unset, .unset, .unset, .unset] [(.int x0), (.int (3 : Int32))])
  refine own_go (fun _ => XS.iconst X.here hx rfl (hb hby at_2)) ?_
  show own_WP p e below _ T (mkF m 3 #[.val (.int x0), .val (.int x1), .val (.int x2), .val (.int x3), .val (.int x4), .val (.int x5), .unset, .unset, .unset, .unset, .unset, .unset, .unset, .unset, .unset, .unset, .unset, .unset, .unset, .unset, .unset] [(.int (3 : Int32)), (.int x0), (.int (3 : Int32))])
  refine own_go (fun _ => XS.iand X.here hx rfl (hb hby at_3) rfl) ?_
  show own_WP p e below _ T (mkF m 4 #[.val (.int x0), .val (.int x1), .val (.int x2), .val (.int x3), .val (.int x4), .val (.int x5), .unset, .unset, .unset, .unset, .unset, .unset, .unset, .unset, .unset, .unset, .unset, .unset, .unset, .unset, .unset] [(.int (x0 &&& (3 : Int32))), (.int (3 : Int32))])
  refine own_go (fun _ => XS.iadd X.here hx rfl (hb hby at_4) rfl) ?_
  show own_WP p e below _ T (mkF m 5 #[.val (.int x0), .val (.int x1), .val (.int x2), .val (.int x3), .val (.int x4), .val (.int x5), .unset, .unset, .unset, .unset, .unset, .unset, .unset, .unset, .unset, .unset, .unset, .unset, .unset, .unset, .unset] [(.int ((3 : Int32) + (x0 &&& (3 : Int32))))])
  refine own_go (fun _ => XS.istore X.here hx rfl (hb hby at_5) rfl (l' := #[.val (.int x0), .val (.int x1), .val (.int x2), .val (.int x3), .val (.int x4), .val (.int x5), .val (.int ((3 : Int32) + (x0 &&& (3 : Int32)))), .unset, .unset, .unset, .unset, .unset, .unset, .unset, .unset, .unset, .unset, .unset, .unset, .unset, .unset]) rfl) ?_
  show own_WP p e below _ T (mkF m 7 #[.val (.int x0), .val (.int x1), .val (.int x2), .val (.int x3), .val (.int x4), .val (.int x5), .val (.int ((3 : Int32) + (x0 &&& (3 : Int32)))), .unset, .unset, .unset, .unset, .unset, .unset, .unset, .unset, .unset, .unset, .unset, .unset, .unset, .unset] [])
  obtain ⟨T1, h1, X1, e1, E1, A1, D1, -, st1⟩ := newO X hx hZ hown (hw _ (List.mem_of_getElem? (i := 0) rfl)) (hw _ (List.mem_of_getElem? (i := 1) rfl)) (hw _ (List.mem_of_getElem? (i := 2) rfl)) e0 (g := (mkF m 7 #[.val (.int x0), .val (.int x1), .val (.int x2), .val (.int x3), .val (.int x4), .val (.int x5), .val (.int ((3 : Int32) + (x0 &&& (3 : Int32)))), .unset, .unset, .unset, .unset, .unset, .unset, .unset, .unset, .unset, .unset, .unset, .unset, .unset, .unset] [])) rfl (hb hby at_7) (by decide) (by decide)
  obtain ⟨b7, hb_b7⟩ : ∃ z, z = h.size := ⟨_, rfl⟩
  rw [← hb_b7] at A1 D1 st1
  refine own_go st1 ?_
  have g_b7 : n0 ≤ b7 := by have q := K.1; omega
  have z_b7 : h0.size ≤ b7 := by have q := K.1; omega
  replace K := K.ext E1
  have E_b7 := A1
  have F_b7_root : Fld Z h1 b7 "com/example/gridfare/gridfare/engine/LoweringTree" "root" "I" (.int (0 : Int32)) := D1 (Or.inr (hw _ (List.mem_of_getElem? (i := 10) rfl))) (ty := .int) (by decide)
  have F_b7_following : Fld Z h1 b7 "com/example/gridfare/gridfare/engine/LoweringTree" "following" "[I" .null := D1 (Or.inr (hw _ (List.mem_of_getElem? (i := 13) rfl))) (ty := (.array .int)) (by decide)
  have F_b7_preceding : Fld Z h1 b7 "com/example/gridfare/gridfare/engine/LoweringTree" "preceding" "[I" .null := D1 (Or.inr (hw _ (List.mem_of_getElem? (i := 15) rfl))) (ty := (.array .int)) (by decide)
  have F_b7_depth : Fld Z h1 b7 "com/example/gridfare/gridfare/engine/LoweringTree" "depth" "[I" .null := D1 (Or.inr (hw _ (List.mem_of_getElem? (i := 17) rfl))) (ty := (.array .int)) (by decide)
  show own_WP p e below _ T1 (mkF m 10 #[.val (.int x0), .val (.int x1), .val (.int x2), .val (.int x3), .val (.int x4), .val (.int x5), .val (.int ((3 : Int32) + (x0 &&& (3 : Int32)))), .unset, .unset, .unset, .unset, .unset, .unset, .unset, .unset, .unset, .unset, .unset, .unset, .unset, .unset] [(.ref b7)])
  refine own_go (fun _ => XS.dup X1.here hx rfl (hb hby at_10) rfl rfl) ?_
  show own_WP p e below _ T1 (mkF m 11 #[.val (.int x0), .val (.int x1), .val (.int x2), .val (.int x3), .val (.int x4), .val (.int x5), .val (.int ((3 : Int32) + (x0 &&& (3 : Int32)))), .unset, .unset, .unset, .unset, .unset, .unset, .unset, .unset, .unset, .unset, .unset, .unset, .unset, .unset] [(.ref b7), (.ref b7)])
  refine own_go (fun _ => XS.iload X1.here hx rfl (hb hby at_11) rfl) ?_
  show own_WP p e below _ T1 (mkF m 13 #[.val (.int x0), .val (.int x1), .val (.int x2), .val (.int x3), .val (.int x4), .val (.int x5), .val (.int ((3 : Int32) + (x0 &&& (3 : Int32)))), .unset, .unset, .unset, .unset, .unset, .unset, .unset, .unset, .unset, .unset, .unset, .unset, .unset, .unset] [(.int ((3 : Int32) + (x0 &&& (3 : Int32)))), (.ref b7), (.ref b7)])
  obtain ⟨rr2, hf2, hv⟩ := own_bind hv
  obtain ⟨T2, v2, L2, X2, ⟨N2, K2, Q2⟩, st2⟩ := own_callN X1 C (a := b7) (argsL := [(.int ((3 : Int32) + (x0 &&& (3 : Int32))))]) (rm1 l Z a0 hw n0 h1 (by have q := K.1; omega) (by omega) E_b7 F_b7_root F_b7_following F_b7_preceding F_b7_depth ((3 : Int32) + (x0 &&& (3 : Int32))) rr2 hf2) rfl (hw _ (List.mem_of_getElem? (i := 3) rfl)) (hw _ (List.mem_of_getElem? (i := 4) rfl)) (hw _ (List.mem_of_getElem? (i := 2) rfl)) (hw _ (List.mem_of_getElem? (i := 5) rfl)) (by decide) e1 (W := 1) (pc := 13) (Ls := #[.val (.int x0), .val (.int x1), .val (.int x2), .val (.int x3), .val (.int x4), .val (.int x5), .val (.int ((3 : Int32) + (x0 &&& (3 : Int32)))), .unset, .unset, .unset, .unset, .unset, .unset, .unset, .unset, .unset, .unset, .unset, .unset, .unset, .unset]) rfl (lenOf pd1 rfl) (rest := [(.ref b7)]) (stk := [(.int ((3 : Int32) + (x0 &&& (3 : Int32)))), (.ref b7), (.ref b7)]) rfl (Nat.le_of_ble_eq_true rfl) (hb hby at_13) (by decide) (by decide) (by decide) (by decide)
  replace N := Fr.app N N2
  have lt2 : b7 < h1.size := E_b7.lt
  clear E_b7
  clear F_b7_root
  clear F_b7_following
  clear F_b7_preceding
  clear F_b7_depth
  obtain ⟨b13_b13, b13_b22, b13_b31, zz2, oo2_0, oo2_1, rfl, E_b7, F_b7_root, F_b7_following, F_b7_preceding, F_b7_depth, V_b13_b13, V_b13_b22, V_b13_b31⟩ := Q2
  have o_b7_b13_b13 : b7 < b13_b13 := by omega
  have o_b13_b13_b13_b22 := oo2_0
  have o_b13_b22_b13_b31 := oo2_1
  replace K := K.trans K2 (allS (Or.inr (by omega)) all0)
  refine own_go st2 ?_
  exact b0_16 hw C Z0 rr hP X2 (rfl : T2.heap = T2.heap) N K o_b7_b13_b13 o_b13_b13_b13_b22 o_b13_b22_b13_b31 g_b7 z_b7 E_b7 F_b7_root F_b7_following F_b7_preceding F_b7_depth V_b13_b13 V_b13_b22 V_b13_b31 x0 x1 x2 x3 x4 x5 ((3 : Int32) + (x0 &&& (3 : Int32))) hv
theorem ef0 (m : MethodId) (x0 : Int32) (x1 : Int32) (x2 : Int32) (x3 : Int32) (x4 : Int32) (x5 : Int32) : entryFrame m #[(.int x0), (.int x1), (.int x2), (.int x3), (.int x4), (.int x5)] maxLocals = (mkF m 0 #[.val (.int x0), .val (.int x1), .val (.int x2), .val (.int x3), .val (.int x4), .val (.int x5), .unset, .unset, .unset, .unset, .unset, .unset, .unset, .unset, .unset, .unset, .unset, .unset, .unset, .unset, .unset] []) := by first | (simp [entryFrame, mkF, argsToLocals, Value.category, maxLocals]; done) | rfl
theorem pn0 : plainFor x = true := plainFor_of_name (by first | (simp [plainName, overriddenIn, x]; done) | decide +kernel)
theorem own_seq {α β γ δ ρ : Type} {A : Option α} {B : α → Option β} {D : α → β → Option γ} {p : α → δ} {v : δ} {w : γ} (h : (A.bind fun r => (B r).bind fun s => (D r s).bind fun t => some (p r, t)) = some (v, w)) (K : δ → γ → Option ρ) : (A.bind fun r => (B r).bind fun s => (D r s).bind fun t => K (p r) t) = K v w := by
  cases A with
  | none => cases h
  | some r =>
    simp only [Option.bind_some] at h ⊢
    cases hb : B r with
    | none => rw [hb] at h; cases h
    | some s =>
      rw [hb] at h
      simp only [Option.bind_some] at h ⊢
      cases hc : D r s with
      | none => rw [hc] at h; cases h
      | some t =>
        rw [hc] at h
        simp only [Option.bind_some] at h ⊢
        cases h; rfl
theorem own_mod (x m : Int32) (n : Nat) (hx : 0 ≤ x.toInt) (hm : m.toInt = n) (hn : 0 < n) : ∃ i, i < n ∧ x % m = Int32.ofNat i := by
  have r := rng32 (x % m)
  have k : (x % m).toInt = x.toInt % n := by rw [Int32.toInt_mod, Int.tmod_eq_emod_of_nonneg hx, hm]
  have k1 := Int.emod_nonneg x.toInt (show (n : Int) ≠ 0 by omega)
  have k2 := Int.emod_lt_of_pos x.toInt (show (0 : Int) < n by omega)
  refine ⟨(x % m).toInt.toNat, by omega, ?_⟩
  apply Int32.toInt_inj.mp
  rw [Int32.toInt_ofNat_of_lt (by show _ < 2 ^ 31; omega)]
  omega
theorem own_m31 (x : Int32) : 0 ≤ (x &&& (2147483647 : Int32)).toInt := by
  have q := c_mask x 2147483647 31 (by decide) (by decide +kernel)
  omega
theorem own_m16 (x : Int32) : 0 ≤ (x &&& (65535 : Int32)).toInt := by
  have q := c_mask x 65535 16 (by decide) (by decide +kernel)
  omega
theorem own_m15 (x : Int32) : 0 ≤ (x &&& (32767 : Int32)).toInt := by
  have q := c_mask x 32767 15 (by decide) (by decide +kernel)
  omega
theorem own_two (x : Int32) : x &&& (3 : Int32) = 0 ∨ x &&& (3 : Int32) = 1 ∨ x &&& (3 : Int32) = 2 ∨ x &&& (3 : Int32) = 3 := by
  have q := c_mask x 3 2 (by decide) (by decide +kernel)
  simp only [← Int32.toInt_inj]
  show _ = (0 : Int) ∨ _ = (1 : Int) ∨ _ = (2 : Int) ∨ _ = (3 : Int)
  omega
set_option maxRecDepth 65536 in
theorem own_init_3 : f1_0 (3 : Int32) = some ((3 : Int32), [(1 : Int32), (2 : Int32), (3 : Int32), (0 : Int32)], [(3 : Int32), (0 : Int32), (1 : Int32), (2 : Int32)], [(1 : Int32), (1 : Int32), (1 : Int32), (0 : Int32)]) := by decide +kernel
set_option maxRecDepth 65536 in
set_option maxHeartbeats 40000000 in
theorem own_A_3 : ∀ (i : Fin 3) (j : Fin 2) (k : Fin 4), ((f4_0 (3 : Int32) [(1 : Int32), (2 : Int32), (3 : Int32), (0 : Int32)] [(3 : Int32), (0 : Int32), (1 : Int32), (2 : Int32)] [(1 : Int32), (1 : Int32), (1 : Int32), (0 : Int32)] (Int32.ofNat i.val) (((Int32.ofNat i.val + (1 : Int32)) + Int32.ofNat j.val) % (3 : Int32))).bind fun rr5 => (f4_0 (3 : Int32) (rr5.2.1) (rr5.2.2.1) (rr5.2.2.2) (((Int32.ofNat i.val + (1 : Int32)) + Int32.ofNat j.val) % (3 : Int32)) (Int32.ofNat k.val)).bind fun rr6 => (f3_0 (3 : Int32) (rr6.2.1) (rr6.2.2.1) (rr6.2.2.2)).bind fun rr7 => some (rr5.1, rr7)) = some ((1 : Int32), ([(1 : Int32), (2 : Int32), (3 : Int32), (0 : Int32)], [(3 : Int32), (0 : Int32), (1 : Int32), (2 : Int32)], [(1 : Int32), (1 : Int32), (1 : Int32), (0 : Int32)])) := by decide +kernel
set_option maxRecDepth 65536 in
set_option maxHeartbeats 40000000 in
theorem own_B_3 : ∀ (e : Fin 3) (i : Fin 3) (j : Fin 2) (k : Fin 1), f0_87 (3 : Int32) [(1 : Int32), (2 : Int32), (3 : Int32), (0 : Int32)] [(3 : Int32), (0 : Int32), (1 : Int32), (2 : Int32)] [(1 : Int32), (1 : Int32), (1 : Int32), (0 : Int32)] (Int32.ofNat i.val) (Int32.ofNat j.val) (Int32.ofNat k.val) (3 : Int32) (Int32.ofNat e.val) (1 : Int32) = some 1 := by decide +kernel
set_option maxRecDepth 65536 in
theorem own_R_3 : (∀ i : Fin 3, (Int32.ofNat i.val &&& (2147483647 : Int32)) % (3 : Int32) = Int32.ofNat i.val) ∧ (∀ i : Fin 2, (Int32.ofNat i.val &&& (2147483647 : Int32)) % ((3 : Int32) - (1 : Int32)) = Int32.ofNat i.val) ∧ (∀ i : Fin 1, (Int32.ofNat i.val &&& (2147483647 : Int32)) % ((3 : Int32) - (2 : Int32)) = Int32.ofNat i.val) := by decide +kernel
theorem own_87_3 (x3 x4 x5 : Int32) (e : Fin 3) : f0_87 (3 : Int32) [(1 : Int32), (2 : Int32), (3 : Int32), (0 : Int32)] [(3 : Int32), (0 : Int32), (1 : Int32), (2 : Int32)] [(1 : Int32), (1 : Int32), (1 : Int32), (0 : Int32)] x3 x4 x5 (3 : Int32) (Int32.ofNat e.val) (1 : Int32) = some 1 := by
  obtain ⟨i, hi, e1⟩ := own_mod (x3 &&& (2147483647 : Int32)) (3 : Int32) 3 (own_m31 x3) rfl (by decide)
  obtain ⟨j, hj, e2⟩ := own_mod (x4 &&& (2147483647 : Int32)) ((3 : Int32) - (1 : Int32)) 2 (own_m31 x4) rfl (by decide)
  obtain ⟨k, hk, e3⟩ := own_mod (x5 &&& (2147483647 : Int32)) ((3 : Int32) - (2 : Int32)) 1 (own_m31 x5) rfl (by decide)
  have q := own_B_3 e ⟨i, hi⟩ ⟨j, hj⟩ ⟨k, hk⟩
  obtain ⟨r1, r2, r3⟩ := own_R_3
  have r1' := r1 ⟨i, hi⟩
  have r2' := r2 ⟨j, hj⟩
  have r3' := r3 ⟨k, hk⟩
  dsimp only at q r1' r2' r3'
  unfold f0_87 at q ⊢
  rw [r1', r2', r3'] at q
  rw [e1, e2, e3]
  exact q
theorem own_16_3 (x1 x2 x3 x4 x5 : Int32) : f0_16 (3 : Int32) [(1 : Int32), (2 : Int32), (3 : Int32), (0 : Int32)] [(3 : Int32), (0 : Int32), (1 : Int32), (2 : Int32)] [(1 : Int32), (1 : Int32), (1 : Int32), (0 : Int32)] x1 x2 x3 x4 x5 (3 : Int32) = some 1 := by
  unfold f0_16 own_let
  dsimp only
  rw [if_neg (by decide), if_neg (by decide), if_neg (by decide), if_neg (by decide)]
  obtain ⟨i, hi, e1⟩ := own_mod (x1 &&& (65535 : Int32)) (3 : Int32) 3 (own_m16 x1) rfl (by decide)
  obtain ⟨j, hj, e2⟩ := own_mod (x2 &&& (2147483647 : Int32)) ((3 : Int32) - (1 : Int32)) 2 (own_m31 x2) rfl (by decide)
  obtain ⟨k, hk, e3⟩ := own_mod ((XT.ushr x1 (16 : Int32)) &&& (32767 : Int32)) ((3 : Int32) + (1 : Int32)) 4 (own_m15 _) rfl (by decide)
  rw [e1, e2, e3]
  have q := own_seq (own_A_3 ⟨i, hi⟩ ⟨j, hj⟩ ⟨k, hk⟩) (fun v w => f0_87 (3 : Int32) (w.1) (w.2.1) (w.2.2) x3 x4 x5 (3 : Int32) (Int32.ofNat i) v)
  unfold f0_61
  refine Eq.trans ?_ (q.trans (own_87_3 x3 x4 x5 ⟨i, hi⟩))
  rfl
set_option maxRecDepth 65536 in
theorem own_init_4 : f1_0 (4 : Int32) = some ((4 : Int32), [(1 : Int32), (2 : Int32), (3 : Int32), (4 : Int32), (0 : Int32)], [(4 : Int32), (0 : Int32), (1 : Int32), (2 : Int32), (3 : Int32)], [(1 : Int32), (1 : Int32), (1 : Int32), (1 : Int32), (0 : Int32)]) := by decide +kernel
set_option maxRecDepth 65536 in
set_option maxHeartbeats 40000000 in
theorem own_A_4 : ∀ (i : Fin 4) (j : Fin 3) (k : Fin 5), ((f4_0 (4 : Int32) [(1 : Int32), (2 : Int32), (3 : Int32), (4 : Int32), (0 : Int32)] [(4 : Int32), (0 : Int32), (1 : Int32), (2 : Int32), (3 : Int32)] [(1 : Int32), (1 : Int32), (1 : Int32), (1 : Int32), (0 : Int32)] (Int32.ofNat i.val) (((Int32.ofNat i.val + (1 : Int32)) + Int32.ofNat j.val) % (4 : Int32))).bind fun rr5 => (f4_0 (4 : Int32) (rr5.2.1) (rr5.2.2.1) (rr5.2.2.2) (((Int32.ofNat i.val + (1 : Int32)) + Int32.ofNat j.val) % (4 : Int32)) (Int32.ofNat k.val)).bind fun rr6 => (f3_0 (4 : Int32) (rr6.2.1) (rr6.2.2.1) (rr6.2.2.2)).bind fun rr7 => some (rr5.1, rr7)) = some ((1 : Int32), ([(1 : Int32), (2 : Int32), (3 : Int32), (4 : Int32), (0 : Int32)], [(4 : Int32), (0 : Int32), (1 : Int32), (2 : Int32), (3 : Int32)], [(1 : Int32), (1 : Int32), (1 : Int32), (1 : Int32), (0 : Int32)])) := by decide +kernel
set_option maxRecDepth 65536 in
set_option maxHeartbeats 40000000 in
theorem own_B_4 : ∀ (e : Fin 4) (i : Fin 4) (j : Fin 3) (k : Fin 2), f0_87 (4 : Int32) [(1 : Int32), (2 : Int32), (3 : Int32), (4 : Int32), (0 : Int32)] [(4 : Int32), (0 : Int32), (1 : Int32), (2 : Int32), (3 : Int32)] [(1 : Int32), (1 : Int32), (1 : Int32), (1 : Int32), (0 : Int32)] (Int32.ofNat i.val) (Int32.ofNat j.val) (Int32.ofNat k.val) (4 : Int32) (Int32.ofNat e.val) (1 : Int32) = some 1 := by decide +kernel
set_option maxRecDepth 65536 in
theorem own_R_4 : (∀ i : Fin 4, (Int32.ofNat i.val &&& (2147483647 : Int32)) % (4 : Int32) = Int32.ofNat i.val) ∧ (∀ i : Fin 3, (Int32.ofNat i.val &&& (2147483647 : Int32)) % ((4 : Int32) - (1 : Int32)) = Int32.ofNat i.val) ∧ (∀ i : Fin 2, (Int32.ofNat i.val &&& (2147483647 : Int32)) % ((4 : Int32) - (2 : Int32)) = Int32.ofNat i.val) := by decide +kernel
theorem own_87_4 (x3 x4 x5 : Int32) (e : Fin 4) : f0_87 (4 : Int32) [(1 : Int32), (2 : Int32), (3 : Int32), (4 : Int32), (0 : Int32)] [(4 : Int32), (0 : Int32), (1 : Int32), (2 : Int32), (3 : Int32)] [(1 : Int32), (1 : Int32), (1 : Int32), (1 : Int32), (0 : Int32)] x3 x4 x5 (4 : Int32) (Int32.ofNat e.val) (1 : Int32) = some 1 := by
  obtain ⟨i, hi, e1⟩ := own_mod (x3 &&& (2147483647 : Int32)) (4 : Int32) 4 (own_m31 x3) rfl (by decide)
  obtain ⟨j, hj, e2⟩ := own_mod (x4 &&& (2147483647 : Int32)) ((4 : Int32) - (1 : Int32)) 3 (own_m31 x4) rfl (by decide)
  obtain ⟨k, hk, e3⟩ := own_mod (x5 &&& (2147483647 : Int32)) ((4 : Int32) - (2 : Int32)) 2 (own_m31 x5) rfl (by decide)
  have q := own_B_4 e ⟨i, hi⟩ ⟨j, hj⟩ ⟨k, hk⟩
  obtain ⟨r1, r2, r3⟩ := own_R_4
  have r1' := r1 ⟨i, hi⟩
  have r2' := r2 ⟨j, hj⟩
  have r3' := r3 ⟨k, hk⟩
  dsimp only at q r1' r2' r3'
  unfold f0_87 at q ⊢
  rw [r1', r2', r3'] at q
  rw [e1, e2, e3]
  exact q
theorem own_16_4 (x1 x2 x3 x4 x5 : Int32) : f0_16 (4 : Int32) [(1 : Int32), (2 : Int32), (3 : Int32), (4 : Int32), (0 : Int32)] [(4 : Int32), (0 : Int32), (1 : Int32), (2 : Int32), (3 : Int32)] [(1 : Int32), (1 : Int32), (1 : Int32), (1 : Int32), (0 : Int32)] x1 x2 x3 x4 x5 (4 : Int32) = some 1 := by
  unfold f0_16 own_let
  dsimp only
  rw [if_neg (by decide), if_neg (by decide), if_neg (by decide), if_neg (by decide)]
  obtain ⟨i, hi, e1⟩ := own_mod (x1 &&& (65535 : Int32)) (4 : Int32) 4 (own_m16 x1) rfl (by decide)
  obtain ⟨j, hj, e2⟩ := own_mod (x2 &&& (2147483647 : Int32)) ((4 : Int32) - (1 : Int32)) 3 (own_m31 x2) rfl (by decide)
  obtain ⟨k, hk, e3⟩ := own_mod ((XT.ushr x1 (16 : Int32)) &&& (32767 : Int32)) ((4 : Int32) + (1 : Int32)) 5 (own_m15 _) rfl (by decide)
  rw [e1, e2, e3]
  have q := own_seq (own_A_4 ⟨i, hi⟩ ⟨j, hj⟩ ⟨k, hk⟩) (fun v w => f0_87 (4 : Int32) (w.1) (w.2.1) (w.2.2) x3 x4 x5 (4 : Int32) (Int32.ofNat i) v)
  unfold f0_61
  refine Eq.trans ?_ (q.trans (own_87_4 x3 x4 x5 ⟨i, hi⟩))
  rfl
set_option maxRecDepth 65536 in
theorem own_init_5 : f1_0 (5 : Int32) = some ((5 : Int32), [(1 : Int32), (2 : Int32), (3 : Int32), (4 : Int32), (5 : Int32), (0 : Int32)], [(5 : Int32), (0 : Int32), (1 : Int32), (2 : Int32), (3 : Int32), (4 : Int32)], [(1 : Int32), (1 : Int32), (1 : Int32), (1 : Int32), (1 : Int32), (0 : Int32)]) := by decide +kernel
set_option maxRecDepth 65536 in
set_option maxHeartbeats 40000000 in
theorem own_A_5 : ∀ (i : Fin 5) (j : Fin 4) (k : Fin 6), ((f4_0 (5 : Int32) [(1 : Int32), (2 : Int32), (3 : Int32), (4 : Int32), (5 : Int32), (0 : Int32)] [(5 : Int32), (0 : Int32), (1 : Int32), (2 : Int32), (3 : Int32), (4 : Int32)] [(1 : Int32), (1 : Int32), (1 : Int32), (1 : Int32), (1 : Int32), (0 : Int32)] (Int32.ofNat i.val) (((Int32.ofNat i.val + (1 : Int32)) + Int32.ofNat j.val) % (5 : Int32))).bind fun rr5 => (f4_0 (5 : Int32) (rr5.2.1) (rr5.2.2.1) (rr5.2.2.2) (((Int32.ofNat i.val + (1 : Int32)) + Int32.ofNat j.val) % (5 : Int32)) (Int32.ofNat k.val)).bind fun rr6 => (f3_0 (5 : Int32) (rr6.2.1) (rr6.2.2.1) (rr6.2.2.2)).bind fun rr7 => some (rr5.1, rr7)) = some ((1 : Int32), ([(1 : Int32), (2 : Int32), (3 : Int32), (4 : Int32), (5 : Int32), (0 : Int32)], [(5 : Int32), (0 : Int32), (1 : Int32), (2 : Int32), (3 : Int32), (4 : Int32)], [(1 : Int32), (1 : Int32), (1 : Int32), (1 : Int32), (1 : Int32), (0 : Int32)])) := by decide +kernel
set_option maxRecDepth 65536 in
set_option maxHeartbeats 40000000 in
theorem own_B_5 : ∀ (e : Fin 5) (i : Fin 5) (j : Fin 4) (k : Fin 3), f0_87 (5 : Int32) [(1 : Int32), (2 : Int32), (3 : Int32), (4 : Int32), (5 : Int32), (0 : Int32)] [(5 : Int32), (0 : Int32), (1 : Int32), (2 : Int32), (3 : Int32), (4 : Int32)] [(1 : Int32), (1 : Int32), (1 : Int32), (1 : Int32), (1 : Int32), (0 : Int32)] (Int32.ofNat i.val) (Int32.ofNat j.val) (Int32.ofNat k.val) (5 : Int32) (Int32.ofNat e.val) (1 : Int32) = some 1 := by decide +kernel
set_option maxRecDepth 65536 in
theorem own_R_5 : (∀ i : Fin 5, (Int32.ofNat i.val &&& (2147483647 : Int32)) % (5 : Int32) = Int32.ofNat i.val) ∧ (∀ i : Fin 4, (Int32.ofNat i.val &&& (2147483647 : Int32)) % ((5 : Int32) - (1 : Int32)) = Int32.ofNat i.val) ∧ (∀ i : Fin 3, (Int32.ofNat i.val &&& (2147483647 : Int32)) % ((5 : Int32) - (2 : Int32)) = Int32.ofNat i.val) := by decide +kernel
theorem own_87_5 (x3 x4 x5 : Int32) (e : Fin 5) : f0_87 (5 : Int32) [(1 : Int32), (2 : Int32), (3 : Int32), (4 : Int32), (5 : Int32), (0 : Int32)] [(5 : Int32), (0 : Int32), (1 : Int32), (2 : Int32), (3 : Int32), (4 : Int32)] [(1 : Int32), (1 : Int32), (1 : Int32), (1 : Int32), (1 : Int32), (0 : Int32)] x3 x4 x5 (5 : Int32) (Int32.ofNat e.val) (1 : Int32) = some 1 := by
  obtain ⟨i, hi, e1⟩ := own_mod (x3 &&& (2147483647 : Int32)) (5 : Int32) 5 (own_m31 x3) rfl (by decide)
  obtain ⟨j, hj, e2⟩ := own_mod (x4 &&& (2147483647 : Int32)) ((5 : Int32) - (1 : Int32)) 4 (own_m31 x4) rfl (by decide)
  obtain ⟨k, hk, e3⟩ := own_mod (x5 &&& (2147483647 : Int32)) ((5 : Int32) - (2 : Int32)) 3 (own_m31 x5) rfl (by decide)
  have q := own_B_5 e ⟨i, hi⟩ ⟨j, hj⟩ ⟨k, hk⟩
  obtain ⟨r1, r2, r3⟩ := own_R_5
  have r1' := r1 ⟨i, hi⟩
  have r2' := r2 ⟨j, hj⟩
  have r3' := r3 ⟨k, hk⟩
  dsimp only at q r1' r2' r3'
  unfold f0_87 at q ⊢
  rw [r1', r2', r3'] at q
  rw [e1, e2, e3]
  exact q
theorem own_16_5 (x1 x2 x3 x4 x5 : Int32) : f0_16 (5 : Int32) [(1 : Int32), (2 : Int32), (3 : Int32), (4 : Int32), (5 : Int32), (0 : Int32)] [(5 : Int32), (0 : Int32), (1 : Int32), (2 : Int32), (3 : Int32), (4 : Int32)] [(1 : Int32), (1 : Int32), (1 : Int32), (1 : Int32), (1 : Int32), (0 : Int32)] x1 x2 x3 x4 x5 (5 : Int32) = some 1 := by
  unfold f0_16 own_let
  dsimp only
  rw [if_neg (by decide), if_neg (by decide), if_neg (by decide), if_neg (by decide)]
  obtain ⟨i, hi, e1⟩ := own_mod (x1 &&& (65535 : Int32)) (5 : Int32) 5 (own_m16 x1) rfl (by decide)
  obtain ⟨j, hj, e2⟩ := own_mod (x2 &&& (2147483647 : Int32)) ((5 : Int32) - (1 : Int32)) 4 (own_m31 x2) rfl (by decide)
  obtain ⟨k, hk, e3⟩ := own_mod ((XT.ushr x1 (16 : Int32)) &&& (32767 : Int32)) ((5 : Int32) + (1 : Int32)) 6 (own_m15 _) rfl (by decide)
  rw [e1, e2, e3]
  have q := own_seq (own_A_5 ⟨i, hi⟩ ⟨j, hj⟩ ⟨k, hk⟩) (fun v w => f0_87 (5 : Int32) (w.1) (w.2.1) (w.2.2) x3 x4 x5 (5 : Int32) (Int32.ofNat i) v)
  unfold f0_61
  refine Eq.trans ?_ (q.trans (own_87_5 x3 x4 x5 ⟨i, hi⟩))
  rfl
set_option maxRecDepth 65536 in
theorem own_init_6 : f1_0 (6 : Int32) = some ((6 : Int32), [(1 : Int32), (2 : Int32), (3 : Int32), (4 : Int32), (5 : Int32), (6 : Int32), (0 : Int32)], [(6 : Int32), (0 : Int32), (1 : Int32), (2 : Int32), (3 : Int32), (4 : Int32), (5 : Int32)], [(1 : Int32), (1 : Int32), (1 : Int32), (1 : Int32), (1 : Int32), (1 : Int32), (0 : Int32)]) := by decide +kernel
set_option maxRecDepth 65536 in
set_option maxHeartbeats 40000000 in
theorem own_A_6 : ∀ (i : Fin 6) (j : Fin 5) (k : Fin 7), ((f4_0 (6 : Int32) [(1 : Int32), (2 : Int32), (3 : Int32), (4 : Int32), (5 : Int32), (6 : Int32), (0 : Int32)] [(6 : Int32), (0 : Int32), (1 : Int32), (2 : Int32), (3 : Int32), (4 : Int32), (5 : Int32)] [(1 : Int32), (1 : Int32), (1 : Int32), (1 : Int32), (1 : Int32), (1 : Int32), (0 : Int32)] (Int32.ofNat i.val) (((Int32.ofNat i.val + (1 : Int32)) + Int32.ofNat j.val) % (6 : Int32))).bind fun rr5 => (f4_0 (6 : Int32) (rr5.2.1) (rr5.2.2.1) (rr5.2.2.2) (((Int32.ofNat i.val + (1 : Int32)) + Int32.ofNat j.val) % (6 : Int32)) (Int32.ofNat k.val)).bind fun rr6 => (f3_0 (6 : Int32) (rr6.2.1) (rr6.2.2.1) (rr6.2.2.2)).bind fun rr7 => some (rr5.1, rr7)) = some ((1 : Int32), ([(1 : Int32), (2 : Int32), (3 : Int32), (4 : Int32), (5 : Int32), (6 : Int32), (0 : Int32)], [(6 : Int32), (0 : Int32), (1 : Int32), (2 : Int32), (3 : Int32), (4 : Int32), (5 : Int32)], [(1 : Int32), (1 : Int32), (1 : Int32), (1 : Int32), (1 : Int32), (1 : Int32), (0 : Int32)])) := by decide +kernel
set_option maxRecDepth 65536 in
set_option maxHeartbeats 40000000 in
theorem own_B_6 : ∀ (e : Fin 6) (i : Fin 6) (j : Fin 5) (k : Fin 4), f0_87 (6 : Int32) [(1 : Int32), (2 : Int32), (3 : Int32), (4 : Int32), (5 : Int32), (6 : Int32), (0 : Int32)] [(6 : Int32), (0 : Int32), (1 : Int32), (2 : Int32), (3 : Int32), (4 : Int32), (5 : Int32)] [(1 : Int32), (1 : Int32), (1 : Int32), (1 : Int32), (1 : Int32), (1 : Int32), (0 : Int32)] (Int32.ofNat i.val) (Int32.ofNat j.val) (Int32.ofNat k.val) (6 : Int32) (Int32.ofNat e.val) (1 : Int32) = some 1 := by decide +kernel
set_option maxRecDepth 65536 in
theorem own_R_6 : (∀ i : Fin 6, (Int32.ofNat i.val &&& (2147483647 : Int32)) % (6 : Int32) = Int32.ofNat i.val) ∧ (∀ i : Fin 5, (Int32.ofNat i.val &&& (2147483647 : Int32)) % ((6 : Int32) - (1 : Int32)) = Int32.ofNat i.val) ∧ (∀ i : Fin 4, (Int32.ofNat i.val &&& (2147483647 : Int32)) % ((6 : Int32) - (2 : Int32)) = Int32.ofNat i.val) := by decide +kernel
theorem own_87_6 (x3 x4 x5 : Int32) (e : Fin 6) : f0_87 (6 : Int32) [(1 : Int32), (2 : Int32), (3 : Int32), (4 : Int32), (5 : Int32), (6 : Int32), (0 : Int32)] [(6 : Int32), (0 : Int32), (1 : Int32), (2 : Int32), (3 : Int32), (4 : Int32), (5 : Int32)] [(1 : Int32), (1 : Int32), (1 : Int32), (1 : Int32), (1 : Int32), (1 : Int32), (0 : Int32)] x3 x4 x5 (6 : Int32) (Int32.ofNat e.val) (1 : Int32) = some 1 := by
  obtain ⟨i, hi, e1⟩ := own_mod (x3 &&& (2147483647 : Int32)) (6 : Int32) 6 (own_m31 x3) rfl (by decide)
  obtain ⟨j, hj, e2⟩ := own_mod (x4 &&& (2147483647 : Int32)) ((6 : Int32) - (1 : Int32)) 5 (own_m31 x4) rfl (by decide)
  obtain ⟨k, hk, e3⟩ := own_mod (x5 &&& (2147483647 : Int32)) ((6 : Int32) - (2 : Int32)) 4 (own_m31 x5) rfl (by decide)
  have q := own_B_6 e ⟨i, hi⟩ ⟨j, hj⟩ ⟨k, hk⟩
  obtain ⟨r1, r2, r3⟩ := own_R_6
  have r1' := r1 ⟨i, hi⟩
  have r2' := r2 ⟨j, hj⟩
  have r3' := r3 ⟨k, hk⟩
  dsimp only at q r1' r2' r3'
  unfold f0_87 at q ⊢
  rw [r1', r2', r3'] at q
  rw [e1, e2, e3]
  exact q
theorem own_16_6 (x1 x2 x3 x4 x5 : Int32) : f0_16 (6 : Int32) [(1 : Int32), (2 : Int32), (3 : Int32), (4 : Int32), (5 : Int32), (6 : Int32), (0 : Int32)] [(6 : Int32), (0 : Int32), (1 : Int32), (2 : Int32), (3 : Int32), (4 : Int32), (5 : Int32)] [(1 : Int32), (1 : Int32), (1 : Int32), (1 : Int32), (1 : Int32), (1 : Int32), (0 : Int32)] x1 x2 x3 x4 x5 (6 : Int32) = some 1 := by
  unfold f0_16 own_let
  dsimp only
  rw [if_neg (by decide), if_neg (by decide), if_neg (by decide), if_neg (by decide)]
  obtain ⟨i, hi, e1⟩ := own_mod (x1 &&& (65535 : Int32)) (6 : Int32) 6 (own_m16 x1) rfl (by decide)
  obtain ⟨j, hj, e2⟩ := own_mod (x2 &&& (2147483647 : Int32)) ((6 : Int32) - (1 : Int32)) 5 (own_m31 x2) rfl (by decide)
  obtain ⟨k, hk, e3⟩ := own_mod ((XT.ushr x1 (16 : Int32)) &&& (32767 : Int32)) ((6 : Int32) + (1 : Int32)) 7 (own_m15 _) rfl (by decide)
  rw [e1, e2, e3]
  have q := own_seq (own_A_6 ⟨i, hi⟩ ⟨j, hj⟩ ⟨k, hk⟩) (fun v w => f0_87 (6 : Int32) (w.1) (w.2.1) (w.2.2) x3 x4 x5 (6 : Int32) (Int32.ofNat i) v)
  unfold f0_61
  refine Eq.trans ?_ (q.trans (own_87_6 x3 x4 x5 ⟨i, hi⟩))
  rfl
theorem plain0 (x0 x1 x2 x3 x4 x5 : Int32) : f0_0 x0 x1 x2 x3 x4 x5 = some 1 := by
  unfold f0_0
  rcases own_two x0 with h | h | h | h
  · have e : (3 : Int32) + (x0 &&& (3 : Int32)) = (3 : Int32) := by rw [h]; rfl
    rw [e, own_init_3, Option.bind_some]
    exact own_16_3 x1 x2 x3 x4 x5
  · have e : (3 : Int32) + (x0 &&& (3 : Int32)) = (4 : Int32) := by rw [h]; rfl
    rw [e, own_init_4, Option.bind_some]
    exact own_16_4 x1 x2 x3 x4 x5
  · have e : (3 : Int32) + (x0 &&& (3 : Int32)) = (5 : Int32) := by rw [h]; rfl
    rw [e, own_init_5, Option.bind_some]
    exact own_16_5 x1 x2 x3 x4 x5
  · have e : (3 : Int32) + (x0 &&& (3 : Int32)) = (6 : Int32) := by rw [h]; rfl
    rw [e, own_init_6, Option.bind_some]
    exact own_16_6 x1 x2 x3 x4 x5
theorem rm0 (l : Launch) (Z : State) (a0 : Array Value) (hw : ∀ d ∈ tables_1, d.before a0 Z = true) (ws : List Jvm.Cond) (x0 : Int32) (x1 : Int32) (x2 : Int32) (x3 : Int32) (x4 : Int32) (x5 : Int32) (h0 : Heap) : own_Met l Z x code maxLocals ret ws room_1 #[(.int x0), (.int x1), (.int x2), (.int x3), (.int x4), (.int x5)] h0 (fun v h L => v = some (.int 1) ∧ Fr h0.size L) := by
  refine own_body pn0 ?_
  intro p e s m below meth c s₁ C X e0
  exact own_cast (ef0 m x0 x1 x2 x3 x4 x5) (b0_0 hw C (Nat.le_refl h0.size) (1 : Int32) (fun v h L a b c => ⟨c, a⟩) X e0 (Fr.nil _) (Keep.refl h0 []) x0 x1 x2 x3 x4 x5 (plain0 x0 x1 x2 x3 x4 x5))
set_option maxRecDepth 65536 in
set_option maxHeartbeats 40000000 in
theorem comes_1 {Post : Tables → Env → Array Value → State → Outcome → State → Prop} (hpost : ∀ tb e args s v u, (limb_1_1.after args s (.returned v) u = true ∧ limb_1_2.after args s (.returned v) u = true ∧ True) → FrameEnd s (.returned v) u (Jvm.fieldLocs frame_1_writes args s ++ Jvm.arrayLocs frame_1_arrays args s ++ Jvm.staticLocs frame_1_statics s) 16 128 → Post tb e args s (.returned v) u) :
    ArmFor flags0 classFile x code maxLocals ret World_1 tables_1 room_1 Calls_1 rest_1 Pre_1 Post := by
  intro l hfl _ _ p e ha hc hk s m args below hf hA hF happ hP
  obtain ⟨hcalls, hrest, hpre⟩ := hP
  obtain ⟨-, -, -, hnamed, -, -, -, hat⟩ := (Spec.applies_iff hf).mp happ
  obtain ⟨hg, hn⟩ := and_e (Cond.before_iff.mp (show (Jvm.Cond.and given_1 narrow_1).before args s = true from hpre))
  obtain ⟨hcnt, hg0⟩ := and_e hg
  obtain ⟨ha0, hg1⟩ := and_e hg0
  obtain ⟨ha1, hg2⟩ := and_e hg1
  obtain ⟨ha2, hg3⟩ := and_e hg2
  obtain ⟨ha3, hg4⟩ := and_e hg3
  obtain ⟨ha4, hg5⟩ := and_e hg4
  have ha5 := hg5
  obtain ⟨w0, w1, w2, w3, w4, w5, rfl⟩ : ∃ w0 w1 w2 w3 w4 w5 : Value, args = #[w0, w1, w2, w3, w4, w5] := by
    have hs : args.size = 6 := by simpa [Cond.value, given_1] using hcnt
    obtain ⟨L⟩ := args
    match L, hs with
    | [w0, w1, w2, w3, w4, w5], _ => exact ⟨w0, w1, w2, w3, w4, w5, rfl⟩
  have hw := fun d (hd : d ∈ tables_1) => atoms_spec (ws := Jvm.Cond.code x code maxLocals ret :: tables_1) hat d (List.mem_cons_of_mem _ hd)
  obtain ⟨i0, ei0⟩ := is_v ha0
  obtain rfl : w0 = (.int i0) := Option.some.inj ei0
  obtain ⟨i1, ei1⟩ := is_v ha1
  obtain rfl : w1 = (.int i1) := Option.some.inj ei1
  obtain ⟨i2, ei2⟩ := is_v ha2
  obtain rfl : w2 = (.int i2) := Option.some.inj ei2
  obtain ⟨i3, ei3⟩ := is_v ha3
  obtain rfl : w3 = (.int i3) := Option.some.inj ei3
  obtain ⟨i4, ei4⟩ := is_v ha4
  obtain rfl : w4 = (.int i4) := Option.some.inj ei4
  obtain ⟨i5, ei5⟩ := is_v ha5
  obtain rfl : w5 = (.int i5) := Option.some.inj ei5
  obtain ⟨n, o, h1, h2, h3, _, L, rfl, ⟨rfl, N⟩, hq⟩ := rm0 l s _ hw tables_1 i0 i1 i2 i3 i4 i5 s.heap p e ha hc hk s m _ below hf ((Spec.applies_iff_loose hf).mp happ).1 ⟨rfl, State.Warmed39.refl s, rfl⟩ trivial
  refine ⟨n, _, h1, h2, h3, hpost _ _ _ _ _ _ ⟨Cond.after_iff.mpr rfl, Cond.after_iff.mpr (eq_i res_at (Term.int_eval (1)) rfl), trivial⟩ ⟨hq.1, hq.2.1, (hq.2.2.sift fun y hy => Or.inr (N y hy)).mono (by decide) (by decide)⟩⟩
theorem main_1_1 : Claimed_1_1 := comes_1 fun _ _ _ _ _ _ h hF => ⟨h.1, hF⟩
theorem main_1_2 : Claimed_1_2 := comes_1 fun _ _ _ _ _ _ h hF => ⟨h.2.1, hF⟩
end Jvm.Pilot.@@N@@
namespace Jvm.Pilot.@@N@@
open Jvm Jvm.ClassFile Sem Op Lib Jvm.Free Jvm.Stand Jvm.Pilot.@@N@@.Jvm.D
/-! MADE BY PROGRAM (witnessworld.py) out of the Statement's table words and the real class files: 9 classes; the members and pool entries that the words name. The judged class is class 1, her method 1. -/
namespace start1
open Jvm.ClassFile
def u (s : String) : CpInfo := .utf8 (stringToUtf16 s)
/-- a pool by its gaps: so many unusable entries, then the entry; so many at the end -/
def gap : Nat → List CpInfo → List CpInfo
  | 0, r => r
  | n + 1, r => .unusable :: gap n r
def poolList (es : List (Nat × CpInfo)) (last : Nat) : List CpInfo := es.foldr (fun e r => gap e.1 (e.2 :: r)) (gap last [])
def pool (es : List (Nat × CpInfo)) (last : Nat) : Array CpInfo := ⟨poolList es last⟩
def fileOf (pool : Array CpInfo) (this : Nat) (attrs : Array Attribute := #[]) (ms : Array MethodInfo := #[]) (fl : Nat := 33) (sup : Nat := 0) (ifs : Array Nat := #[]) (fds : Array FieldInfo := #[]) : ClassFile where
  minorVersion := 0
  majorVersion := 65
  constantPool := pool
  accessFlags := fl
  thisClass := this
  superClass := sup
  interfaces := ifs
  fields := fds
  methods := ms
  attributes := attrs
def plain (name : String) (sup : Option ClassId) : Class where
  name := name
  kind := .ordinary
  loader := none
  accessFlags := 33
  super := sup
  interfaces := #[]
  cf := none
  fields := #[]
  methods := #[]
  instanceTypes := #[]
  staticTypes := #[]
  resolved := #[]
  callSites := []
  init := .initialized
  statics := none
  mirror := none

def pool0 : Array CpInfo := pool [(5, u "<init>"), (0, u "()V"), (1, .class_ 10), (1, u "java/lang/Object")] 113

def k0c0 : Code := { maxStack := 0, maxLocals := 1, code := object_method_1_code, exceptionTable := #[], attributes := #[] }
def k0m0 : Method := { name := "<init>", desc := "()V", sig := { parameters := [], returnType := none }, accessFlags := 1, code := some k0c0 }
/-- java/lang/Object -/
def k0 : Class := { plain "java/lang/Object" none with
  accessFlags := 33
  interfaces := #[]
  cf := some (fileOf pool0 8 #[] #[{ accessFlags := 1, nameIndex := 5, descriptorIndex := 6, attributes := #[] }] 33 0 #[] #[])
  fields := #[]
  methods := #[k0m0]
  instanceTypes := #[]
  staticTypes := #[]
  resolved := Array.replicate 124 none
  statics := none }

def pool1 : Array CpInfo := pool [(2, .class_ 4), (1, u "java/lang/Object"), (0, u "<init>"), (0, u "()V"), (0, .class_ 8), (0, u "com/example/gridfare/gridfare/engine/LoweringTree"), (0, .methodref 7 10), (0, .nameAndType 5 11), (0, u "(I)V"), (0, .integer 65535), (0, .integer 2147483647), (0, .methodref 7 15), (0, .nameAndType 16 17), (0, u "hang"), (0, u "(II)Z"), (0, .methodref 7 19), (0, .nameAndType 20 6), (0, u "plant"), (0, .methodref 7 22), (0, .nameAndType 23 24), (0, u "holds"), (0, u "(I)Z"), (0, .class_ 26), (0, u "com/example/gridfare/gridfare/engine/LoweringTreePlantPinLaw"), (2, u "law"), (0, u "(IIIIII)Z")] 3

def k1m0 : Method := { name := "<init>", desc := "()V", sig := { parameters := [], returnType := none }, accessFlags := 1, code := none }
def k1c1 : Code := { maxStack := 5, maxLocals := 21, code := code, exceptionTable := #[], attributes := #[] }
def k1m1 : Method := { name := "law", desc := "(IIIIII)Z", sig := { parameters := [.int, .int, .int, .int, .int, .int], returnType := some .boolean }, accessFlags := 9, code := some k1c1 }
/-- com/example/gridfare/gridfare/engine/LoweringTreePlantPinLaw -/
def k1 : Class := { plain "com/example/gridfare/gridfare/engine/LoweringTreePlantPinLaw" (some 0) with
  accessFlags := 49
  interfaces := #[]
  cf := some (fileOf pool1 25 #[] #[{ accessFlags := 1, nameIndex := 5, descriptorIndex := 6, attributes := #[] }, { accessFlags := 9, nameIndex := 29, descriptorIndex := 30, attributes := #[] }] 49 2 #[] #[])
  fields := #[]
  methods := #[k1m0, k1m1]
  instanceTypes := #[]
  staticTypes := #[]
  resolved := Array.replicate 34 none
  statics := none }

def pool2 : Array CpInfo := pool [(1, .methodref 2 3), (0, .class_ 4), (0, .nameAndType 5 6), (0, u "java/lang/Object"), (0, u "<init>"), (0, u "()V"), (0, .fieldref 8 9), (0, .class_ 10), (0, .nameAndType 11 12), (0, u "com/example/gridfare/gridfare/engine/LoweringTree"), (0, u "root"), (0, u "I"), (0, .fieldref 8 14), (0, .nameAndType 15 16), (0, u "following"), (0, u "[I"), (0, .fieldref 8 18), (0, .nameAndType 19 16), (0, u "preceding"), (0, .fieldref 8 21), (0, .nameAndType 22 16), (0, u "depth"), (0, .methodref 8 24), (0, .nameAndType 25 6), (0, u "plant"), (0, .methodref 8 27), (0, .nameAndType 28 29), (0, u "holds"), (0, u "(I)Z"), (0, u "OUT"), (2, u "(I)V"), (3, u "hang"), (0, u "(II)Z")] 2

def k2c0 : Code := { maxStack := 3, maxLocals := 2, code := prog_39_method_1_code, exceptionTable := #[], attributes := #[] }
def k2m0 : Method := { name := "<init>", desc := "(I)V", sig := { parameters := [.int], returnType := none }, accessFlags := 0, code := some k2c0 }
def k2c1 : Code := { maxStack := 4, maxLocals := 2, code := prog_39_method_2_code, exceptionTable := #[], attributes := #[] }
def k2m1 : Method := { name := "plant", desc := "()V", sig := { parameters := [], returnType := none }, accessFlags := 0, code := some k2c1 }
def k2c2 : Code := { maxStack := 2, maxLocals := 2, code := prog_39_method_3_code, exceptionTable := #[], attributes := #[] }
def k2m2 : Method := { name := "holds", desc := "(I)Z", sig := { parameters := [.int], returnType := some .boolean }, accessFlags := 0, code := some k2c2 }
def k2c3 : Code := { maxStack := 4, maxLocals := 4, code := prog_39_method_4_code, exceptionTable := #[], attributes := #[] }
def k2m3 : Method := { name := "hang", desc := "(II)Z", sig := { parameters := [.int, .int], returnType := some .boolean }, accessFlags := 0, code := some k2c3 }
/-- com/example/gridfare/gridfare/engine/LoweringTree -/
def k2 : Class := { plain "com/example/gridfare/gridfare/engine/LoweringTree" (some 0) with
  accessFlags := 48
  interfaces := #[]
  cf := some (fileOf pool2 8 #[] #[{ accessFlags := 0, nameIndex := 5, descriptorIndex := 33, attributes := #[] }, { accessFlags := 0, nameIndex := 25, descriptorIndex := 6, attributes := #[] }, { accessFlags := 0, nameIndex := 28, descriptorIndex := 29, attributes := #[] }, { accessFlags := 0, nameIndex := 37, descriptorIndex := 38, attributes := #[] }] 48 2 #[] #[{ accessFlags := 26, nameIndex := 30, descriptorIndex := 12, attributes := #[] }, { accessFlags := 18, nameIndex := 11, descriptorIndex := 12, attributes := #[] }, { accessFlags := 18, nameIndex := 15, descriptorIndex := 16, attributes := #[] }, { accessFlags := 18, nameIndex := 19, descriptorIndex := 16, attributes := #[] }, { accessFlags := 18, nameIndex := 22, descriptorIndex := 16, attributes := #[] }])
  fields := #[{ name := "OUT", type := .int, accessFlags := 26, slot := 0, constantValue := 0 }, { name := "root", type := .int, accessFlags := 18, slot := 0, constantValue := 0 }, { name := "following", type := (.array .int), accessFlags := 18, slot := 1, constantValue := 0 }, { name := "preceding", type := (.array .int), accessFlags := 18, slot := 2, constantValue := 0 }, { name := "depth", type := (.array .int), accessFlags := 18, slot := 3, constantValue := 0 }]
  methods := #[k2m0, k2m1, k2m2, k2m3]
  instanceTypes := #[.int, (.array .int), (.array .int), (.array .int)]
  staticTypes := #[.int]
  resolved := Array.replicate 41 none
  statics := none }

def pool3 : Array CpInfo := pool [(1, u "java/lang/Cloneable"), (0, .class_ 1), (0, u "java/lang/Object"), (0, .class_ 3)] 3

/-- java/lang/Cloneable -/
def k3 : Class := { plain "java/lang/Cloneable" (some 0) with
  accessFlags := 1537
  interfaces := #[]
  cf := some (fileOf pool3 2 #[] #[] 1537 4 #[] #[])
  fields := #[]
  methods := #[]
  instanceTypes := #[]
  staticTypes := #[]
  resolved := Array.replicate 8 none
  statics := none }

def pool4 : Array CpInfo := pool [(1, u "java/io/Serializable"), (0, .class_ 1), (0, u "java/lang/Object"), (0, .class_ 3)] 3

/-- java/io/Serializable -/
def k4 : Class := { plain "java/io/Serializable" (some 0) with
  accessFlags := 1537
  interfaces := #[]
  cf := some (fileOf pool4 2 #[] #[] 1537 4 #[] #[])
  fields := #[]
  methods := #[]
  instanceTypes := #[]
  staticTypes := #[]
  resolved := Array.replicate 8 none
  statics := none }

/-- the primitive byte -/
def k5 : Class := { plain "byte" none with kind := .primitive 'B', accessFlags := 0x411 }
/-- [B -/
def k6 : Class := { plain "[B" (some 0) with kind := .array 5 .byte, interfaces := #[3, 4], accessFlags := 1041 }

/-- the primitive int -/
def k7 : Class := { plain "int" none with kind := .primitive 'I', accessFlags := 0x411 }
/-- [I -/
def k8 : Class := { plain "[I" (some 0) with kind := .array 7 .int, interfaces := #[3, 4], accessFlags := 1041 }

def heap : Heap := #[]
def classes : Array Class := #[k0, k1, k2, k3, k4, k5, k6, k7, k8]
def interned : List (Array UInt16 × Addr) := []
def slotsUsed : Nat := 0
def theMethod : MethodId := ⟨1, 1⟩
def args0 : Array Value := #[.int 5, .int 5, .int 5, .int 5, .int 5, .int 5]
def aboutOver (below : List Frame) : State where
  vm := { classes := classes, interned := interned.toArray }
  heap := heap
  slotsUsed := slotsUsed
  threads := #[{ frames := .invoking theMethod args0 :: below }]
def below0 : List Frame := [.native { method := ⟨0, 0⟩, args := #[] }]
def about1 : State := aboutOver below0
def p0 : Program := .bare "" "" ""
def e0 : Env := launch0.env 0 0 0
theorem w_frames : about1.frames = Frame.invoking theMethod args0 :: below0 := rfl
set_option maxRecDepth 65536 in
theorem w_args : argsFit about1.vm theMethod args0 = true := by decide +kernel
set_option maxRecDepth 65536 in
theorem w_heap : heapFits about1 = true := by decide +kernel
set_option maxRecDepth 65536 in
theorem w_runnable : about1.curStatus? = some .runnable := by decide +kernel
set_option maxRecDepth 65536 in
theorem w_alone : about1.alone = true := by decide +kernel
set_option maxRecDepth 65536 in
theorem w_named : about1.methodNamed? x = some theMethod := by decide +kernel
set_option maxRecDepth 65536 in
theorem w_hears : about1.hears theMethod below0 = true := by decide +kernel
set_option maxRecDepth 65536 in
theorem w_ripe : about1.ripe theMethod args0 below0 = true := by decide +kernel
theorem w_running : about1.status = .running := rfl
set_option maxRecDepth 65536 in
theorem w_room : about1.hasRoom e0.platform room_1 = true :=
  launch0.hasRoom_least _ room_1 (by decide +kernel) (by decide +kernel) (by decide +kernel) (by decide +kernel) (by decide +kernel) (by decide +kernel)
theorem allAtoms_all (ts : List Jvm.Cond) (a : Array Jvm.Value) (st : Jvm.State) : (allAtoms ts).before a st = ts.all (fun c => c.before a st) := by
  induction ts with
  | nil => rfl
  | cons c t ih =>
    show (Jvm.Cond.and c (allAtoms t)).before a st = _
    rw [Jvm.Cond.before_and, ih, List.all_cons]
def words1 : List Jvm.Cond := Jvm.Cond.code x code maxLocals ret :: tables_1
/-- a 'code' word, met by the world's own term for the bytes: nothing is compared byte by byte -/
theorem code_word {y : MethodName} {bytes : ByteArray} {mx : Nat} {rt : Option FieldType} {a : Array Value} {s : State} {m : MethodId} {meth : Method} {c : Code} (h1 : s.methodNamed? y = some m) (h2 : s.vm.method? m = some meth) (h3 : meth.code = some c) (h4 : c.code = bytes)
    (h5 : (c.maxLocals == mx && c.exceptionTable.isEmpty && decide (c.maxStack ≤ mostOperands) && decide (meth.sig.returnType = rt) && !meth.locks && decide (parseMethodDescriptor y.desc = some meth.sig)) = true) : (Jvm.Cond.code y bytes mx rt).before a s = true := by
  simp only [Bool.and_eq_true, beq_iff_eq, Bool.not_eq_true', decide_eq_true_eq] at h5
  obtain ⟨⟨⟨⟨⟨g1, g2⟩, g3⟩, g4⟩, g5⟩, g6⟩ := h5
  simp [Cond.before, Cond.holds, Cond.value, h1, h2, h3, h4, g1, g2, g3, g4, g5, g6]
def isCode : Jvm.Cond → Bool
  | .code _ _ _ _ => true
  | _ => false
theorem all_split {L : List Jvm.Cond} {P : Jvm.Cond → Bool} (h1 : L.all (fun c => isCode c || P c) = true) (h2 : ∀ c ∈ L.filter isCode, P c = true) : L.all P = true := by
  refine List.all_eq_true.mpr fun c hc => ?_
  have h := List.all_eq_true.mp h1 c hc
  rcases Bool.eq_false_or_eq_true (isCode c) with hi | hi
  · exact h2 c (List.mem_filter.mpr ⟨hc, hi⟩)
  · simpa [hi] using h
set_option maxRecDepth 65536 in
theorem w_c0 : (Jvm.Cond.code x code maxLocals ret).before args0 about1 = true := code_word (m := ⟨1, 1⟩) (meth := k1m1) (c := k1c1) (by decide +kernel) rfl rfl rfl (by decide +kernel)
set_option maxRecDepth 65536 in
theorem w_c1 : (Jvm.Cond.code ({ cls := "com/example/gridfare/gridfare/engine/LoweringTree", name := "<init>", desc := "(I)V" } : Jvm.MethodName) prog_39_method_1_code (2 : Nat) (Option.none : Option Jvm.ClassFile.FieldType)).before args0 about1 = true := code_word (m := ⟨2, 0⟩) (meth := k2m0) (c := k2c0) (by decide +kernel) rfl rfl rfl (by decide +kernel)
set_option maxRecDepth 65536 in
theorem w_c2 : (Jvm.Cond.code ({ cls := "java/lang/Object", name := "<init>", desc := "()V" } : Jvm.MethodName) object_method_1_code (1 : Nat) (Option.none : Option Jvm.ClassFile.FieldType)).before args0 about1 = true := code_word (m := ⟨0, 0⟩) (meth := k0m0) (c := k0c0) (by decide +kernel) rfl rfl rfl (by decide +kernel)
set_option maxRecDepth 65536 in
theorem w_c3 : (Jvm.Cond.code ({ cls := "com/example/gridfare/gridfare/engine/LoweringTree", name := "plant", desc := "()V" } : Jvm.MethodName) prog_39_method_2_code (2 : Nat) (Option.none : Option Jvm.ClassFile.FieldType)).before args0 about1 = true := code_word (m := ⟨2, 1⟩) (meth := k2m1) (c := k2c1) (by decide +kernel) rfl rfl rfl (by decide +kernel)
set_option maxRecDepth 65536 in
theorem w_c4 : (Jvm.Cond.code ({ cls := "com/example/gridfare/gridfare/engine/LoweringTree", name := "hang", desc := "(II)Z" } : Jvm.MethodName) prog_39_method_4_code (4 : Nat) (Option.some Jvm.ClassFile.FieldType.boolean)).before args0 about1 = true := code_word (m := ⟨2, 3⟩) (meth := k2m3) (c := k2c3) (by decide +kernel) rfl rfl rfl (by decide +kernel)
set_option maxRecDepth 65536 in
theorem w_c5 : (Jvm.Cond.code ({ cls := "com/example/gridfare/gridfare/engine/LoweringTree", name := "holds", desc := "(I)Z" } : Jvm.MethodName) prog_39_method_3_code (2 : Nat) (Option.some Jvm.ClassFile.FieldType.boolean)).before args0 about1 = true := code_word (m := ⟨2, 2⟩) (meth := k2m2) (c := k2c2) (by decide +kernel) rfl rfl rfl (by decide +kernel)
def codes1 : List Jvm.Cond := [Jvm.Cond.code x code maxLocals ret, Jvm.Cond.code ({ cls := "com/example/gridfare/gridfare/engine/LoweringTree", name := "<init>", desc := "(I)V" } : Jvm.MethodName) prog_39_method_1_code (2 : Nat) (Option.none : Option Jvm.ClassFile.FieldType), Jvm.Cond.code ({ cls := "java/lang/Object", name := "<init>", desc := "()V" } : Jvm.MethodName) object_method_1_code (1 : Nat) (Option.none : Option Jvm.ClassFile.FieldType), Jvm.Cond.code ({ cls := "com/example/gridfare/gridfare/engine/LoweringTree", name := "plant", desc := "()V" } : Jvm.MethodName) prog_39_method_2_code (2 : Nat) (Option.none : Option Jvm.ClassFile.FieldType), Jvm.Cond.code ({ cls := "com/example/gridfare/gridfare/engine/LoweringTree", name := "hang", desc := "(II)Z" } : Jvm.MethodName) prog_39_method_4_code (4 : Nat) (Option.some Jvm.ClassFile.FieldType.boolean), Jvm.Cond.code ({ cls := "com/example/gridfare/gridfare/engine/LoweringTree", name := "holds", desc := "(I)Z" } : Jvm.MethodName) prog_39_method_3_code (2 : Nat) (Option.some Jvm.ClassFile.FieldType.boolean)]
set_option maxRecDepth 65536 in
theorem codes_eq : words1.filter isCode = codes1 := rfl
theorem w_codes : ∀ c ∈ words1.filter isCode, c.before args0 about1 = true := by
  rw [codes_eq]
  intro c hc
  simp only [codes1, List.mem_cons, List.not_mem_nil, or_false] at hc
  rcases hc with rfl | rfl | rfl | rfl | rfl | rfl
  · exact w_c0
  · exact w_c1
  · exact w_c2
  · exact w_c3
  · exact w_c4
  · exact w_c5
set_option maxRecDepth 65536 in
theorem w_t1 : (words1.take 24).all (fun c => isCode c || c.before args0 about1) = true := by decide +kernel
set_option maxRecDepth 65536 in
theorem w_t2 : (words1.drop 24).all (fun c => isCode c || c.before args0 about1) = true := by decide +kernel
theorem w_tables : (allAtoms (Jvm.Cond.code x code maxLocals ret :: tables_1)).before args0 about1 = true := by
  rw [allAtoms_all]
  show words1.all (fun c => c.before args0 about1) = true
  refine all_split ?_ w_codes
  rw [← List.take_append_drop 24 words1, List.all_append, w_t1, w_t2]
  rfl
set_option maxRecDepth 65536 in
theorem w_case : (Jvm.Cond.and given_1 narrow_1).before args0 about1 = true := by decide +kernel
theorem w_applies : (headSpec (Jvm.Cond.code x code maxLocals ret :: tables_1) room_1).applies x e0.platform about1 = true :=
  (Spec.applies_iff w_frames).mpr ⟨w_running, w_runnable, w_alone, w_named, w_hears, w_ripe, w_room, w_tables⟩
theorem atStart : AtStart classFile x code maxLocals ret World_1 tables_1 room_1 Calls_1 rest_1 Pre_1 launch0 p0 e0 about1 theMethod args0 below0 :=
  ⟨lists_1, trivial, launch0.admits_env _ _ _, launch0.least_env, fairChoices_fair.cas, fairChoices_fair.clock, w_frames, w_args, w_heap, w_applies, trivial, trivial, w_case⟩
end start1
theorem witness_1 : WitnessClaimed_1 := ⟨start1.p0, start1.e0, start1.about1, start1.theMethod, start1.args0, start1.below0, start1.atStart⟩
end Jvm.Pilot.@@N@@
