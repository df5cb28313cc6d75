import JvmDerived
import JvmDerived.Pilot.@@N@@Statement
import JvmDerived.Pilot.@@N@@Code
set_option linter.unusedVariables false
set_option linter.unusedSimpArgs false
namespace Jvm.RoadKit
open Sem ClassFile Op Lib Jvm.Stand Jvm.Free Jvm.LawKit
section New
variable {p : Program} {l : Launch} {e : Env} {R : Room} {s : State} {m : MethodId} {args : Array Value} {below : List Frame} {meth : Method} {c : Code} {T : State} {locs : List Loc} {cells slots : Nat}
theorem retI (X : Stand p l e R s m args below meth c T locs cells slots) (hx : p.tables.exec = Jvm.exec) {pc : Nat} {Ls : Array Slot} {z : Int32} {rest : List Value} (hret : meth.sig.returnType = some .int) (hd : decode c.code pc = .ok (.ireturn, 1)) {fs : List Frame}
    (hl : ∀ (f : JFrame) (acts : List Action), f.method = m → f.locked = none → f.entered = [] → (doReturn e (T.setTop f) acts (some (.int z))).1 = T.setFrames fs) : Steps p.tables e below (T.setTop (mkF m pc Ls (.int z :: rest))) (T.setFrames fs) := by
  have hm' : T.vm.method? m = some meth := X.method'
  have hn : narrow .int (.int z) = .int z := rfl
  show Steps p.tables e below (T.setTop { method := m, pc := pc, locals := Ls, stack := _ :: rest, locked := none }) _
  jvm_step X.here [X.here.top, hx, hd, hm', hret, hn]
  first | (intro acts; rw [hl _ acts rfl rfl rfl]) | rw [hl _ _ rfl rfl rfl]
  exact Steps.refl _
end New
end Jvm.RoadKit
namespace Jvm.Pilot.@@N@@
open Jvm Jvm.ClassFile Sem Op Lib Jvm.Free Jvm.Stand Jvm.LawKit Jvm.RoadKit Bundle Jvm.Pilot.@@N@@.Jvm.D
/-- what is still to come: from the frame g at T the run comes to an end that Q takes -/
def own_WP (p : Program) (e : Env) (below : List Frame) (Q : Outcome → State → Prop) (T : State) (g : JFrame) : Prop :=
  ∃ s₂ o, Steps p.tables e below (T.setTop g) s₂ ∧ s₂.status = .running ∧ Ended s₂ below o ∧ Q o s₂
def own_Q (s : State) (P : Option Value → Heap → List Loc → Prop) (C S : Nat) (o : Outcome) (U : State) : Prop :=
  ∃ v L, o = .returned v ∧ P v U.heap L ∧ FrameEnd s o U L C S
def own_Ctx (p : Program) (s : State) (m : MethodId) (meth : Method) (c : Code) (Z : State) (y : MethodName) (bytes : ByteArray) (maxL : Nat) (rt : Option FieldType) : Prop :=
  p.tables.exec = Jvm.exec ∧ Z.Warmed39 s.vm ∧ c.code = bytes ∧ c.maxLocals = maxL ∧ s.vm.findClass y.cls = some m.cls ∧ meth.name = y.name ∧ meth.sig.returnType = rt ∧ meth.locks = false
def own_Met (l : Launch) (Z : State) (y : MethodName) (bytes : ByteArray) (maxL : Nat) (rt : Option FieldType) (ws : List Jvm.Cond) (rm : Room) (as' : Array Value) (h : Heap) (P : Option Value → Heap → List Loc → Prop) : Prop :=
  MetFree l y (head1 (Jvm.Cond.code y bytes maxL rt :: ws) rm) (fun a U => a = as' ∧ Z.Warmed39 U.vm ∧ U.heap = h) (fun _ _ _ _ _ => True) (fun _ U o U' => ∃ v L, o = .returned v ∧ P v U'.heap L ∧ FrameEnd U o U' L rm.cells rm.slots)
section Own
variable {p : Program} {l : Launch} {e : Env} {R : Room} {s : State} {m : MethodId} {args : Array Value} {below : List Frame} {meth : Method} {c : Code} {T T' : State} {locs : List Loc} {cells slots : Nat} {Z : State} {a0 : Array Value} {y : MethodName} {bytes : ByteArray} {maxL : Nat} {rt : Option FieldType} {P : Option Value → Heap → List Loc → Prop} {Q : Outcome → State → Prop}
theorem own_go {g g' : JFrame} (st : ∀ t, Steps p.tables e below (T'.setTop g') t → Steps p.tables e below (T.setTop g) t) (h : own_WP p e below Q T' g') : own_WP p e below Q T g := by
  obtain ⟨s₂, o, h1, h2⟩ := h
  exact ⟨s₂, o, st _ h1, h2⟩
theorem own_body {ws : List Jvm.Cond} {rm : Room} {as' : Array Value} {h : Heap} (hp : plainFor y = true)
    (body : ∀ p e s m below meth c s₁, own_Ctx p s m meth c Z y bytes maxL rt → Stand p l e rm s m as' below meth c s₁ [] 0 0 → s₁.heap = h → own_WP p e below (own_Q s P rm.cells rm.slots) s₁ (entryFrame m as' maxL)) :
    own_Met l Z y bytes maxL rt ws rm as' h P := by
  refine MetFree.of_bodySF hp hisR ?_
  intro p e s m args below meth c s₁ Bd hml0 hP hK
  obtain ⟨rfl, hZ, hh⟩ := hP
  exact body p e s m below meth c s₁ ⟨Bd.exec, hZ, Bd.bytes, hml0, findClass_of_methodNamed Bd.named, (name_of_methodNamed Bd.named Bd.method).1, Bd.returns, Bd.notSynchronized⟩ (Stand.of_body Bd) (by rw [← hh, Bd.state]; rfl)
theorem own_cast {g g' : JFrame} (q : g = g') (k : own_WP p e below Q T g') : own_WP p e below Q T g := q ▸ k
theorem own_retI (X : Stand p l e R s m args below meth c T locs cells slots) (C : own_Ctx p s m meth c Z y bytes maxL (some .int)) {pc : Nat} {Ls : Array Slot} {z : Int32} {rest : List Value} {CC SS : Nat}
    (hd : decode c.code pc = .ok (.ireturn, 1)) (hP : P (some (.int z)) T.heap locs) (hc : cells ≤ CC) (hs : slots ≤ SS) : own_WP p e below (own_Q s P CC SS) T (mkF m pc Ls (.int z :: rest)) := by
  obtain ⟨hx, -, -, -, -, -, hr, hlk⟩ := C
  obtain ⟨fs, hrr, hrun, hended, hW, hsame⟩ := X.leave (v := some (.int z)) (fun h => by rw [hr] at h; cases h) hlk
  exact ⟨_, _, retI X hx hr hd hrr, hrun, hended, _, _, rfl, hP, ⟨_, rfl⟩, hW, hsame.mono hc hs⟩
theorem own_retN {t : FieldType} (X : Stand p l e R s m args below meth c T locs cells slots) (C : own_Ctx p s m meth c Z y bytes maxL (some t)) (ht : t = .boolean ∨ t = .byte ∨ t = .char ∨ t = .short) {pc : Nat} {Ls : Array Slot} {z : Int32} {rest : List Value} {CC SS : Nat}
    (hd : decode c.code pc = .ok (.ireturn, 1)) (hP : P (some (.int (nar t z))) T.heap locs) (hc : cells ≤ CC) (hs : slots ≤ SS) : own_WP p e below (own_Q s P CC SS) T (mkF m pc Ls (.int z :: rest)) := by
  obtain ⟨hx, -, -, -, -, -, hr, hlk⟩ := C
  obtain ⟨fs, hrr, hrun, hended, hW, hsame⟩ := X.leave (v := some (.int (nar t z))) (fun h => by rw [hr] at h; cases h) hlk
  exact ⟨_, _, retN X hx hr ht hd hrr, hrun, hended, _, _, rfl, hP, ⟨_, rfl⟩, hW, hsame.mono hc hs⟩
theorem own_retL (X : Stand p l e R s m args below meth c T locs cells slots) (C : own_Ctx p s m meth c Z y bytes maxL (some .long)) {pc : Nat} {Ls : Array Slot} {z : Int64} {CC SS : Nat}
    (hd : decode c.code pc = .ok (.lreturn, 1)) (hP : P (some (.long z)) T.heap locs) (hc : cells ≤ CC) (hs : slots ≤ SS) : own_WP p e below (own_Q s P CC SS) T (mkF m pc Ls [.long z]) := by
  obtain ⟨hx, -, -, -, -, -, hr, hlk⟩ := C
  obtain ⟨fs, hrr, hrun, hended, hW, hsame⟩ := X.leave (v := some (.long z)) (fun h => by rw [hr] at h; cases h) hlk
  exact ⟨_, _, X.lreturnOut hx hr hd hrr, hrun, hended, _, _, rfl, hP, ⟨_, rfl⟩, hW, hsame.mono hc hs⟩
theorem own_retV (X : Stand p l e R s m args below meth c T locs cells slots) (C : own_Ctx p s m meth c Z y bytes maxL none) {pc : Nat} {Ls : Array Slot} {CC SS : Nat}
    (hd : decode c.code pc = .ok (.return_, 1)) (hP : P none T.heap locs) (hc : cells ≤ CC) (hs : slots ≤ SS) : own_WP p e below (own_Q s P CC SS) T (mkF m pc Ls []) := by
  obtain ⟨hx, -, -, -, -, -, hr, hlk⟩ := C
  obtain ⟨fs, hrr, hrun, hended, hW, hsame⟩ := X.leave (v := none) (fun _ => rfl) hlk
  exact ⟨_, _, X.returnOut hx hr hd hrr, hrun, hended, _, _, rfl, hP, ⟨_, rfl⟩, hW, hsame.mono hc hs⟩
theorem own_retA {t : FieldType} (X : Stand p l e R s m args below meth c T locs cells slots) (C : own_Ctx p s m meth c Z y bytes maxL (some t)) (ht : t.isReference = true) {pc : Nat} {Ls : Array Slot} {a : Addr} {CC SS : Nat}
    (hd : decode c.code pc = .ok (.areturn, 1)) (hP : P (some (.ref a)) T.heap locs) (hc : cells ≤ CC) (hs : slots ≤ SS) : own_WP p e below (own_Q s P CC SS) T (mkF m pc Ls [.ref a]) := by
  obtain ⟨hx, -, -, -, -, -, hr, hlk⟩ := C
  obtain ⟨fs, hrr, hrun, hended, hW, hsame⟩ := X.leave (v := some (.ref a)) (fun h => by rw [hr] at h; cases h) hlk
  exact ⟨_, _, X.areturnOut hx rfl hr ht hd hrr, hrun, hended, _, _, rfl, hP, ⟨_, rfl⟩, hW, hsame.mono hc hs⟩
/-- a static call by the callee's contract -/
theorem own_callS (X : Stand p l e R s m args below meth c T locs cells slots) (C : own_Ctx p s m meth c Z y bytes maxL rt) {idx : Nat} {y' : MethodName} {bytes' : ByteArray} {maxL' : Nat} {rt' : Option FieldType} {rm' : Room} {argsL rest : List Value} {h : Heap} {P' : Option Value → Heap → List Loc → Prop}
    (hM : own_Met l Z y' bytes' maxL' rt' [] rm' argsL.toArray h P') (w1 : (Cond.methodLink y.cls idx y').before a0 Z = true) (w2 : (Cond.static y').before a0 Z = true) (w3 : (Cond.initialized y'.cls).before a0 Z = true) (w4 : (Cond.code y' bytes' maxL' rt').before a0 Z = true)
    (hy : y'.cls ≠ "java/lang/invoke/MethodHandle" ∧ y'.cls ≠ "java/lang/invoke/VarHandle") (eT : T.heap = h) {W : Nat} {pc : Nat} {Ls : Array Slot} (hsz : Ls.size = maxL) (hlen : ∀ sig, parseMethodDescriptor y'.desc = some sig → argsL.length = sig.parameters.length)
    {stk : List Value} (hst : stk = argsL.reverse ++ rest) (hW : (rest.map fun v => v.category).sum ≤ W) (hd : decode c.code pc = .ok (.invokestatic idx, 3))
    (hf : rm'.frames + 1 ≤ R.frames) (hl : W + (maxL' + 11) + rm'.locals ≤ R.locals) (hc : cells + rm'.cells ≤ R.cells) (hs : slots + rm'.slots ≤ R.slots) :
    ∃ T' v L, Stand p l e R s m args below meth c T' (locs ++ L) (cells + rm'.cells) (slots + rm'.slots) ∧ P' v T'.heap L ∧ ∀ t, Steps p.tables e below (T'.setTop (mkF m (pc + 3) Ls (v.toList ++ rest))) t → Steps p.tables e below (T.setTop (mkF m pc Ls stk)) t := by
  obtain ⟨hx, hZ, hby, hml, hown, hnm, hr, hlk⟩ := C
  obtain ⟨v, _, ⟨T', L', k', n'⟩, -, X', ⟨L, hQ, hl', hk', hn'⟩, st⟩ := Jvm.LawKit.callS X hx (y := y') hown (mvT hZ w1) (mvT hZ w2) (mvT hZ w3) (mvT hZ w4) hy (backOf (W := W) hM hZ w4 w3 hf hl) (g := mkF m pc Ls stk) rfl (by rw [hml]; exact hsz) (argsL := argsL) (rest := rest) hlen hst (by show 2 * 0 + _ ≤ _; omega) hd (fun _ _ => ⟨rfl, eT, hc, hs⟩)
  dsimp only [Pt.U, Pt.locs, Pt.cells, Pt.slots] at X' hl' hk' hn' st hQ
  subst hl' hk' hn'
  exact ⟨T', v, L, X', hQ, st⟩
/-- a constructor by its contract -/
theorem own_callN (X : Stand p l e R s m args below meth c T locs cells slots) (C : own_Ctx p s m meth c Z y bytes maxL rt) {idx : Nat} {y' : MethodName} {bytes' : ByteArray} {maxL' : Nat} {rm' : Room} {a : Addr} {argsL rest : List Value} {h : Heap} {P' : Option Value → Heap → List Loc → Prop}
    (hM : own_Met l Z y' bytes' maxL' none [] rm' (.ref a :: argsL).toArray h P') (hyn : y'.name = "<init>") (w1 : (Cond.methodLink y.cls idx y').before a0 Z = true) (w2 : (Cond.instanceMethod y').before a0 Z = true) (w3 : (Cond.initialized y'.cls).before a0 Z = true) (w4 : (Cond.code y' bytes' maxL' none).before a0 Z = true)
    (hy : y'.cls ≠ "java/lang/invoke/MethodHandle" ∧ y'.cls ≠ "java/lang/invoke/VarHandle") (eT : T.heap = h) {W : Nat} {pc : Nat} {Ls : Array Slot} (hsz : Ls.size = maxL) (hlen : ∀ sig, parseMethodDescriptor y'.desc = some sig → argsL.length = sig.parameters.length)
    {stk : List Value} (hst : stk = argsL.reverse ++ .ref a :: rest) (hW : (rest.map fun v => v.category).sum ≤ W) (hd : decode c.code pc = .ok (.invokespecial idx, 3))
    (hf : rm'.frames + 1 ≤ R.frames) (hl : W + (maxL' + 11) + rm'.locals ≤ R.locals) (hc : cells + rm'.cells ≤ R.cells) (hs : slots + rm'.slots ≤ R.slots) :
    ∃ T' v L, Stand p l e R s m args below meth c T' (locs ++ L) (cells + rm'.cells) (slots + rm'.slots) ∧ P' v T'.heap L ∧ ∀ t, Steps p.tables e below (T'.setTop (mkF m (pc + 3) Ls (v.toList ++ rest))) t → Steps p.tables e below (T.setTop (mkF m pc Ls stk)) t := by
  obtain ⟨hx, hZ, hby, hml, hown, hnm, hr, hlk⟩ := C
  obtain ⟨v, _, ⟨T', L', k', n'⟩, -, X', ⟨L, hQ, hl', hk', hn'⟩, st⟩ := X.specialBack hx (y := y') hyn hown (mvT hZ w1) (mvT hZ w2) (mvT hZ w4) hy (backOf (W := W) hM hZ w4 w3 hf hl) (g := mkF m pc Ls stk) rfl (by rw [hml]; exact hsz) (Steps.refl _) (a := a) (argsL := argsL) (rest := rest) hlen hst (by show 2 * 0 + _ ≤ _; omega) hd (fun _ _ => ⟨rfl, eT, hc, hs⟩)
  dsimp only [Pt.U, Pt.locs, Pt.cells, Pt.slots] at X' hl' hk' hn' st hQ
  subst hl' hk' hn'
  exact ⟨T', v, L, X', hQ, fun t k => st.trans k⟩
/-- an instance method by the contract of the body that is selected (the class that declares it is the receiver's own) -/
theorem own_callV (X : Stand p l e R s m args below meth c T locs cells slots) (C : own_Ctx p s m meth c Z y bytes maxL rt) {idx : Nat} {y' : MethodName} {bytes' : ByteArray} {maxL' : Nat} {rt' : Option FieldType} {rm' : Room} {a : Addr} {argsL rest : List Value} {h : Heap} {P' : Option Value → Heap → List Loc → Prop}
    (hM : own_Met l Z y' bytes' maxL' rt' [] rm' (.ref a :: argsL).toArray h P') (w1 : (Cond.methodLink y.cls idx y').before a0 Z = true) (wd : (Cond.declares y').before a0 Z = true) (wsel : (Cond.selects y'.cls y' y').before a0 Z = true) (w2 : (Cond.instanceMethod y').before a0 Z = true) (w3 : (Cond.initialized y'.cls).before a0 Z = true) (w4 : (Cond.code y' bytes' maxL' rt').before a0 Z = true)
    (hy : y'.cls ≠ "java/lang/invoke/MethodHandle" ∧ y'.cls ≠ "java/lang/invoke/VarHandle") (eT : T.heap = h) (E : Exa Z h a y'.cls) {W : Nat} {pc : Nat} {Ls : Array Slot} (hsz : Ls.size = maxL) (hlen : ∀ sig, parseMethodDescriptor y'.desc = some sig → argsL.length = sig.parameters.length)
    {stk : List Value} (hst : stk = argsL.reverse ++ .ref a :: rest) (hW : (rest.map fun v => v.category).sum ≤ W) (hd : decode c.code pc = .ok (.invokevirtual idx, 3))
    (hf : rm'.frames + 1 ≤ R.frames) (hl : W + (maxL' + 11) + rm'.locals ≤ R.locals) (hc : cells + rm'.cells ≤ R.cells) (hs : slots + rm'.slots ≤ R.slots) :
    ∃ T' v L, Stand p l e R s m args below meth c T' (locs ++ L) (cells + rm'.cells) (slots + rm'.slots) ∧ P' v T'.heap L ∧ ∀ t, Steps p.tables e below (T'.setTop (mkF m (pc + 3) Ls (v.toList ++ rest))) t → Steps p.tables e below (T.setTop (mkF m pc Ls stk)) t := by
  obtain ⟨hx, hZ, hby, hml, hown, hnm, hr, hlk⟩ := C
  obtain ⟨cq, kq, qa, qb, qc⟩ := isOf hZ eT E
  obtain ⟨v, _, ⟨T', L', k', n'⟩, -, X', ⟨L, hQ, hl', hk', hn'⟩, st⟩ := X.virtualBack hx (y := y') (z := y') hown (mvT hZ w1) (mvT hZ wd) (notFace_of_selects (args := #[]) (mvT hZ wsel)) (mvT hZ wsel) (mvT hZ w2) hy (backOf (W := W) hM hZ w4 w3 hf hl) qa qc (g := mkF m pc Ls stk) rfl (by rw [hml]; exact hsz) (Steps.refl _) (argsL := argsL) (rest := rest) hlen hst (by show 2 * 0 + _ ≤ _; omega) hd (fun _ _ => ⟨rfl, eT, hc, hs⟩)
  dsimp only [Pt.U, Pt.locs, Pt.cells, Pt.slots] at X' hl' hk' hn' st hQ
  subst hl' hk' hn'
  exact ⟨T', v, L, X', hQ, fun t k => st.trans k⟩
end Own
end Jvm.Pilot.@@N@@
namespace Jvm.Pilot.@@N@@
open Jvm Jvm.ClassFile Sem Op Lib Jvm.Free Jvm.Stand Jvm.LawKit Jvm.RoadKit Bundle Jvm.Pilot.@@N@@.Jvm.D
/-- the array at b holds just vs -/
def own_A (Z : State) (h : Heap) (b : Addr) (ty : FieldType) (vs : List Value) : Prop := Exa Z h b ("[" ++ ty.toString) ∧ ∃ c : Cell, Arr Z h b c ty ∧ c.slots = vs.toArray ∧ vs.length < 2147483648 ∧ ∀ v ∈ vs, fits ty v = true
def own_AI (Z : State) (h : Heap) (b : Addr) (ty : FieldType) (vs : List Int32) : Prop := own_A Z h b ty (vs.map Value.int)
def own_AJ (Z : State) (h : Heap) (b : Addr) (ty : FieldType) (vs : List Int64) : Prop := own_A Z h b ty (vs.map Value.long)
def own_get {α : Type} (vs : List α) (j : Int32) : Option α := if j < 0 then none else vs[j.toNatClampNeg]?
def own_set {α : Type} (vs : List α) (j : Int32) (x : α) : Option (List α) := if j < 0 then none else if j.toNatClampNeg < vs.length then some (vs.set j.toNatClampNeg x) else none
theorem own_bind {α β : Type} {o : Option α} {f : α → Option β} {r : β} (h : o.bind f = some r) : ∃ v, o = some v ∧ f v = some r := by
  cases o with
  | none => cases h
  | some v => exact ⟨v, rfl, h⟩
def own_let {α β : Type} (a : α) (f : α → β) : β := f a
theorem own_letE {α β : Type} {a : α} {f : α → β} {r : β} (h : own_let a f = r) : f a = r := h
theorem own_ne {a b : Nat} (h : a < b ∨ b < a) : @Ne Addr a b := by
  intro e
  rcases h with h | h
  · exact Nat.lt_irrefl _ (e ▸ h)
  · exact Nat.lt_irrefl _ (e ▸ h)
theorem own_cap {n : Int32} {c : Int} {k : Nat} (hk : c = (k : Int)) (h : ¬ c < n.toInt) : n.toNatClampNeg ≤ k := by
  have q : n.toNatClampNeg = n.toInt.toNat := rfl
  rw [q]; omega
section Own
variable {p : Program} {l : Launch} {e : Env} {R : Room} {s : State} {m : MethodId} {args : Array Value} {below : List Frame} {meth : Method} {c : Code} {T T' : State} {locs : List Loc} {cells slots : Nat} {Z : State} {a0 : Array Value} {y : MethodName} {bytes : ByteArray} {maxL : Nat} {rt : Option FieldType} {h h' : Heap} {a b : Addr} {ty : FieldType}
theorem own_A.lt {vs : List Value} (F : own_A Z h b ty vs) : b < h.size := by obtain ⟨E, c, A, -⟩ := F; exact A.lt
theorem own_A.ext {vs : List Value} (F : own_A Z h b ty vs) (E : Ext h h') : own_A Z h' b ty vs := by obtain ⟨Q, c, A, r⟩ := F; exact ⟨Q.ext E, c, A.ext E, r⟩
theorem own_A.other {vs : List Value} {sl : Nat} {v : Value} (F : own_A Z h b ty vs) (W : Wr h h' a sl v) (q : b ≠ a) : own_A Z h' b ty vs := by obtain ⟨Q, c, A, r⟩ := F; exact ⟨Q.wr W, c, A.other W q, r⟩
theorem own_A.keep {vs : List Value} {ws : List Addr} (F : own_A Z h b ty vs) (K : Keep h h' ws) (q : b ∉ ws) : own_A Z h' b ty vs := by obtain ⟨Q, c, A, r⟩ := F; exact ⟨Q.keep K, c, ⟨K.2.1 b c A.1 q, A.2⟩, r⟩
theorem own_A.set {vs : List Value} {j : Nat} {v : Value} (F : own_A Z h b ty vs) (W : Wr h h' b j v) (hv : fits ty v = true) : own_A Z h' b ty (vs.set j v) := by
  obtain ⟨Q, c, A, r1, r2, r3⟩ := F
  refine ⟨Q.wr W, _, A.same W, ?_, by simpa using r2, ?_⟩
  · show c.slots.setIfInBounds j v = _
    rw [r1]; simp
  · intro u hu
    rcases List.mem_or_eq_of_mem_set hu with q | q
    · exact r3 u q
    · rw [q]; exact hv
theorem own_AI.lt {vs : List Int32} (F : own_AI Z h b ty vs) : b < h.size := own_A.lt F
theorem own_AI.ext {vs : List Int32} (F : own_AI Z h b ty vs) (E : Ext h h') : own_AI Z h' b ty vs := own_A.ext F E
theorem own_AI.other {vs : List Int32} {sl : Nat} {v : Value} (F : own_AI Z h b ty vs) (W : Wr h h' a sl v) (q : b ≠ a) : own_AI Z h' b ty vs := own_A.other F W q
theorem own_AI.keep {vs : List Int32} {ws : List Addr} (F : own_AI Z h b ty vs) (K : Keep h h' ws) (q : b ∉ ws) : own_AI Z h' b ty vs := own_A.keep F K q
theorem own_AJ.lt {vs : List Int64} (F : own_AJ Z h b ty vs) : b < h.size := own_A.lt F
theorem own_AJ.ext {vs : List Int64} (F : own_AJ Z h b ty vs) (E : Ext h h') : own_AJ Z h' b ty vs := own_A.ext F E
theorem own_AJ.other {vs : List Int64} {sl : Nat} {v : Value} (F : own_AJ Z h b ty vs) (W : Wr h h' a sl v) (q : b ≠ a) : own_AJ Z h' b ty vs := own_A.other F W q
theorem own_AJ.keep {vs : List Int64} {ws : List Addr} (F : own_AJ Z h b ty vs) (K : Keep h h' ws) (q : b ∉ ws) : own_AJ Z h' b ty vs := own_A.keep F K q
theorem own_A.place {α : Type} {f : α → Value} {vs : List α} {j : Int32} {v : α} (F : own_A Z h b ty (vs.map f)) (g : own_get vs j = some v) : ∃ c : Cell, Arr Z h b c ty ∧ ¬ (j < 0 ∨ c.slots.size ≤ j.toNatClampNeg) ∧ c.slots[j.toNatClampNeg]? = some (f v) := by
  obtain ⟨-, c, A, r1, r2, -⟩ := F
  unfold own_get at g
  split at g
  · cases g
  · rename_i hj
    obtain ⟨hlt, hv⟩ := List.getElem?_eq_some_iff.mp g
    refine ⟨c, A, ?_, ?_⟩
    · rintro (q | q)
      · exact hj q
      · rw [r1] at q; simp at q; omega
    · rw [r1]; simp [g]
theorem own_A.room {α : Type} {f : α → Value} {vs vs' : List α} {j : Int32} {v : α} (F : own_A Z h b ty (vs.map f)) (g : own_set vs j v = some vs') : ∃ c : Cell, Arr Z h b c ty ∧ ¬ (j < 0 ∨ c.slots.size ≤ j.toNatClampNeg) ∧ vs' = vs.set j.toNatClampNeg v := by
  obtain ⟨-, c, A, r1, r2, -⟩ := F
  unfold own_set at g
  split at g
  · cases g
  · rename_i hj
    split at g
    · rename_i hlt
      refine ⟨c, A, ?_, (Option.some.inj g).symm⟩
      rintro (q | q)
      · exact hj q
      · rw [r1] at q; simp at q; omega
    · cases g
theorem own_iaload (X : Stand p l e R s m args below meth c T locs cells slots) (C : own_Ctx p s m meth c Z y bytes maxL rt) (eT : T.heap = h) {vs : List Int32} (F : own_AI Z h b .int vs) {j v : Int32} (g : own_get vs j = some v) {pc : Nat} {Ls : Array Slot} {rest : List Value} (hd : decode c.code pc = .ok (.iaload, 1)) :
    ∀ t, Steps p.tables e below (T.setTop (mkF m (pc + 1) Ls (.int v :: rest))) t → Steps p.tables e below (T.setTop (mkF m pc Ls (.int j :: .ref b :: rest))) t := by
  obtain ⟨hx, hZ, -⟩ := C
  obtain ⟨cl, A, hin, hat⟩ := own_A.place F g
  intro t k
  exact X.iaload hx (j := j) (v := .int v) (by rw [eT]; exact A.1) (State.isArrayOf_alike hZ.alike A.2.1) A.2.2 hin hat (g := mkF m pc Ls (.int j :: .ref b :: rest)) rfl rfl hd t k
theorem own_baload (X : Stand p l e R s m args below meth c T locs cells slots) (C : own_Ctx p s m meth c Z y bytes maxL rt) (eT : T.heap = h) {vs : List Int32} (F : own_AI Z h b .byte vs) {j v : Int32} (g : own_get vs j = some v) {pc : Nat} {Ls : Array Slot} {rest : List Value} (hd : decode c.code pc = .ok (.baload, 1)) :
    ∀ t, Steps p.tables e below (T.setTop (mkF m (pc + 1) Ls (.int v :: rest))) t → Steps p.tables e below (T.setTop (mkF m pc Ls (.int j :: .ref b :: rest))) t := by
  obtain ⟨hx, hZ, -⟩ := C
  obtain ⟨cl, A, hin, hat⟩ := own_A.place F g
  intro t k
  exact X.baloadBytes hx (j := j) (v := .int v) (by rw [eT]; exact A.1) (State.isArrayOf_alike hZ.alike A.2.1) A.2.2 hin hat (g := mkF m pc Ls (.int j :: .ref b :: rest)) rfl rfl hd t k
theorem own_laload (X : Stand p l e R s m args below meth c T locs cells slots) (C : own_Ctx p s m meth c Z y bytes maxL rt) (eT : T.heap = h) {vs : List Int64} (F : own_AJ Z h b .long vs) {j : Int32} {v : Int64} (g : own_get vs j = some v) {pc : Nat} {Ls : Array Slot} {rest : List Value} (hd : decode c.code pc = .ok (.laload, 1)) :
    ∀ t, Steps p.tables e below (T.setTop (mkF m (pc + 1) Ls (.long v :: rest))) t → Steps p.tables e below (T.setTop (mkF m pc Ls (.int j :: .ref b :: rest))) t := by
  obtain ⟨hx, hZ, -⟩ := C
  obtain ⟨cl, A, hin, hat⟩ := own_A.place F g
  intro t k
  exact X.laload hx (j := j) (v := .long v) (by rw [eT]; exact A.1) (State.isArrayOf_alike hZ.alike A.2.1) A.2.2 hin hat (g := mkF m pc Ls (.int j :: .ref b :: rest)) rfl rfl hd t k
theorem own_len (X : Stand p l e R s m args below meth c T locs cells slots) (C : own_Ctx p s m meth c Z y bytes maxL rt) (eT : T.heap = h) {vs : List Value} (F : own_A Z h b ty vs) {pc : Nat} {Ls : Array Slot} {rest : List Value} (hd : decode c.code pc = .ok (.arraylength, 1)) :
    ∀ t, Steps p.tables e below (T.setTop (mkF m (pc + 1) Ls (.int (Int32.ofNat vs.length) :: rest))) t → Steps p.tables e below (T.setTop (mkF m pc Ls (.ref b :: rest))) t := by
  obtain ⟨hx, hZ, -⟩ := C
  obtain ⟨-, cl, A, r1, r2, -⟩ := F
  intro t k
  refine X.arraylength hx (by rw [eT]; exact A.1) (State.isArrayOf_alike hZ.alike A.2.1) (g := mkF m pc Ls (.ref b :: rest)) rfl rfl hd t ?_
  have q : cl.slots.size.toInt32 = Int32.ofNat vs.length := by
    rw [r1, List.size_toArray]
  rw [q]; exact k
theorem own_lenI (X : Stand p l e R s m args below meth c T locs cells slots) (C : own_Ctx p s m meth c Z y bytes maxL rt) (eT : T.heap = h) {vs : List Int32} (F : own_AI Z h b ty vs) {pc : Nat} {Ls : Array Slot} {rest : List Value} (hd : decode c.code pc = .ok (.arraylength, 1)) :
    ∀ t, Steps p.tables e below (T.setTop (mkF m (pc + 1) Ls (.int (Int32.ofNat vs.length) :: rest))) t → Steps p.tables e below (T.setTop (mkF m pc Ls (.ref b :: rest))) t := by
  have k := own_len X C eT F (Ls := Ls) (rest := rest) hd
  rwa [List.length_map] at k
theorem own_lenJ (X : Stand p l e R s m args below meth c T locs cells slots) (C : own_Ctx p s m meth c Z y bytes maxL rt) (eT : T.heap = h) {vs : List Int64} (F : own_AJ Z h b ty vs) {pc : Nat} {Ls : Array Slot} {rest : List Value} (hd : decode c.code pc = .ok (.arraylength, 1)) :
    ∀ t, Steps p.tables e below (T.setTop (mkF m (pc + 1) Ls (.int (Int32.ofNat vs.length) :: rest))) t → Steps p.tables e below (T.setTop (mkF m pc Ls (.ref b :: rest))) t := by
  have k := own_len X C eT F (Ls := Ls) (rest := rest) hd
  rwa [List.length_map] at k
theorem own_iastore (X : Stand p l e R s m args below meth c T locs cells slots) (C : own_Ctx p s m meth c Z y bytes maxL rt) (eT : T.heap = h) {vs vs' : List Int32} (F : own_AI Z h b .int vs) {j x : Int32} (g : own_set vs j x = some vs') {pc : Nat} {Ls : Array Slot} {rest : List Value} (hd : decode c.code pc = .ok (.iastore, 1)) :
    ∃ T' h', Stand p l e R s m args below meth c T' (locs ++ [⟨b, j.toNatClampNeg⟩]) cells slots ∧ T'.heap = h' ∧ Wr h h' b j.toNatClampNeg (.int x) ∧ own_AI Z h' b .int vs' ∧
      ∀ t, Steps p.tables e below (T'.setTop (mkF m (pc + 1) Ls rest)) t → Steps p.tables e below (T.setTop (mkF m pc Ls (.int x :: .int j :: .ref b :: rest))) t := by
  obtain ⟨hx, hZ, -⟩ := C
  obtain ⟨cl, A, hin, rfl⟩ := own_A.room F g
  obtain ⟨T', h', X', e', W, st⟩ := stI X hx hZ eT A (j := j) (x := x) hin (g := mkF m pc Ls (.int x :: .int j :: .ref b :: rest)) rfl rfl hd
  refine ⟨T', h', X', e', W, ?_, st⟩
  have k := own_A.set F W rfl
  unfold own_AI
  rwa [List.map_set]
theorem own_lastore (X : Stand p l e R s m args below meth c T locs cells slots) (C : own_Ctx p s m meth c Z y bytes maxL rt) (eT : T.heap = h) {vs vs' : List Int64} (F : own_AJ Z h b .long vs) {j : Int32} {x : Int64} (g : own_set vs j x = some vs') {pc : Nat} {Ls : Array Slot} {rest : List Value} (hd : decode c.code pc = .ok (.lastore, 1)) :
    ∃ T' h', Stand p l e R s m args below meth c T' (locs ++ [⟨b, j.toNatClampNeg⟩]) cells slots ∧ T'.heap = h' ∧ Wr h h' b j.toNatClampNeg (.long x) ∧ own_AJ Z h' b .long vs' ∧
      ∀ t, Steps p.tables e below (T'.setTop (mkF m (pc + 1) Ls rest)) t → Steps p.tables e below (T.setTop (mkF m pc Ls (.long x :: .int j :: .ref b :: rest))) t := by
  obtain ⟨hx, hZ, -⟩ := C
  obtain ⟨cl, A, hin, rfl⟩ := own_A.room F g
  obtain ⟨T', h', X', e', W, st⟩ := stJ X hx hZ eT A (j := j) (x := x) hin (g := mkF m pc Ls (.long x :: .int j :: .ref b :: rest)) rfl rfl hd
  refine ⟨T', h', X', e', W, ?_, st⟩
  have k := own_A.set F W rfl
  unfold own_AJ
  rwa [List.map_set]
theorem own_bastore (X : Stand p l e R s m args below meth c T locs cells slots) (C : own_Ctx p s m meth c Z y bytes maxL rt) (eT : T.heap = h) {vs vs' : List Int32} (F : own_AI Z h b .byte vs) {j x : Int32} (g : own_set vs j (x.toInt8.toInt32) = some vs') {pc : Nat} {Ls : Array Slot} {rest : List Value} (hd : decode c.code pc = .ok (.bastore, 1)) :
    ∃ T' h', Stand p l e R s m args below meth c T' (locs ++ [⟨b, j.toNatClampNeg⟩]) cells slots ∧ T'.heap = h' ∧ Wr h h' b j.toNatClampNeg (.int (x.toInt8.toInt32)) ∧ own_AI Z h' b .byte vs' ∧
      ∀ t, Steps p.tables e below (T'.setTop (mkF m (pc + 1) Ls rest)) t → Steps p.tables e below (T.setTop (mkF m pc Ls (.int x :: .int j :: .ref b :: rest))) t := by
  obtain ⟨hx, hZ, -⟩ := C
  obtain ⟨cl, A, hin, rfl⟩ := own_A.room F g
  obtain ⟨T', h', X', e', W, st⟩ := stB X hx hZ eT A (j := j) (x := x) hin (g := mkF m pc Ls (.int x :: .int j :: .ref b :: rest)) rfl rfl hd
  refine ⟨T', h', X', e', W, ?_, st⟩
  have k := own_A.set F W (fits_nar_byte x)
  unfold own_AI
  rwa [List.map_set]
theorem own_newI (X : Stand p l e R s m args below meth c T locs cells slots) (C : own_Ctx p s m meth c Z y bytes maxL rt) (eT : T.heap = h) {aty : ArrayType} (hk : newarray.typeOf aty = ty) (hdv : defaultValue ty = .int 0) (hfz : fits ty (.int 0) = true) (w : (Cond.arrayClass ty).before a0 Z = true) {n : Int32} (hn : ¬ n < 0) {cap : Nat} (hcap : n.toNatClampNeg ≤ cap) (hb : cap * 8 ≤ 536870912) (hc : cells + 1 ≤ R.cells) (hl : slots + cap ≤ R.slots)
    {pc : Nat} {Ls : Array Slot} {rest : List Value} (hd : decode c.code pc = .ok (.newarray aty, 2)) :
    ∃ T' h' b, Stand p l e R s m args below meth c T' locs (cells + 1) (slots + cap) ∧ T'.heap = h' ∧ Ext h h' ∧ b = h.size ∧ own_AI Z h' b ty (List.replicate n.toNatClampNeg 0) ∧
      ∀ t, Steps p.tables e below (T'.setTop (mkF m (pc + 2) Ls (.ref b :: rest))) t → Steps p.tables e below (T.setTop (mkF m pc Ls (.int n :: rest))) t := by
  obtain ⟨hx, hZ, -⟩ := C
  subst hk
  obtain ⟨T', h', k, X', e', E, A, Q, st⟩ := newPE X hx hZ w eT (g := mkF m pc Ls (.int n :: rest)) rfl hd rfl hn (cap := cap) hcap hb hc hl rfl
  refine ⟨T', h', h.size, X', e', E, rfl, ⟨Q, _, A, ?_, ?_, ?_⟩, st⟩
  · show Array.replicate _ _ = _
    rw [hdv]; simp
  · rw [List.map_replicate, List.length_replicate]; omega
  · intro v hv
    rw [List.map_replicate] at hv
    rw [List.eq_of_mem_replicate hv]
    exact hfz
theorem own_newJ (X : Stand p l e R s m args below meth c T locs cells slots) (C : own_Ctx p s m meth c Z y bytes maxL rt) (eT : T.heap = h) {aty : ArrayType} (hk : newarray.typeOf aty = ty) (hdv : defaultValue ty = .long 0) (hfz : fits ty (.long 0) = true) (w : (Cond.arrayClass ty).before a0 Z = true) {n : Int32} (hn : ¬ n < 0) {cap : Nat} (hcap : n.toNatClampNeg ≤ cap) (hb : cap * 8 ≤ 536870912) (hc : cells + 1 ≤ R.cells) (hl : slots + cap ≤ R.slots)
    {pc : Nat} {Ls : Array Slot} {rest : List Value} (hd : decode c.code pc = .ok (.newarray aty, 2)) :
    ∃ T' h' b, Stand p l e R s m args below meth c T' locs (cells + 1) (slots + cap) ∧ T'.heap = h' ∧ Ext h h' ∧ b = h.size ∧ own_AJ Z h' b ty (List.replicate n.toNatClampNeg 0) ∧
      ∀ t, Steps p.tables e below (T'.setTop (mkF m (pc + 2) Ls (.ref b :: rest))) t → Steps p.tables e below (T.setTop (mkF m pc Ls (.int n :: rest))) t := by
  obtain ⟨hx, hZ, -⟩ := C
  subst hk
  obtain ⟨T', h', k, X', e', E, A, Q, st⟩ := newPE X hx hZ w eT (g := mkF m pc Ls (.int n :: rest)) rfl hd rfl hn (cap := cap) hcap hb hc hl rfl
  refine ⟨T', h', h.size, X', e', E, rfl, ⟨Q, _, A, ?_, ?_, ?_⟩, st⟩
  · show Array.replicate _ _ = _
    rw [hdv]; simp
  · rw [List.map_replicate, List.length_replicate]; omega
  · intro v hv
    rw [List.map_replicate] at hv
    rw [List.eq_of_mem_replicate hv]
    exact hfz
end Own
end Jvm.Pilot.@@N@@
namespace Jvm.Pilot.@@N@@
open Jvm Jvm.ClassFile Sem Op Lib Jvm.Free Jvm.Stand Jvm.LawKit Jvm.RoadKit Bundle Jvm.Pilot.@@N@@.Jvm.D
theorem d2_0 : decode jdk_30_method_1_code 0 = .ok (.aload_n 0, 1) := by decide +kernel
theorem d2_1 : decode jdk_30_method_1_code 1 = .ok (.invokespecial 1, 3) := by decide +kernel
theorem d2_4 : decode jdk_30_method_1_code 4 = .ok (.return_, 1) := by decide +kernel
def rmR2 : Room := { frames := 1, cells := 0, slots := 0, locals := 12 }
def E2 (Z : State) (h0 : Heap) (o0 : Nat)  (rr : Unit) (v : Option Value) (h : Heap) : Prop := v = none
def f2_0  : Option (Unit) := (some ())
set_option maxRecDepth 65536 in
set_option maxHeartbeats 40000000 in
theorem b2_0 {p : Program} {l : Launch} {e : Env} {s : State} {m : MethodId} {args : Array Value} {below : List Frame} {meth : Method} {c : Code} {Z : State} {a0 : Array Value} {h0 : Heap} {n0 : Nat} {P : Option Value → Heap → List Loc → Prop} (hw : ∀ d ∈ tables_1, d.before a0 Z = true) (C : own_Ctx p s m meth c Z (⟨"java/lang/Record", "<init>", "()V"⟩ : MethodName) jdk_30_method_1_code 1 none) (Z0 : n0 ≤ h0.size) {o0 : Nat}  (rr : Unit) (hP : ∀ v h L, Fr n0 L → Keep h0 h [] → E2 Z h0 o0 rr v h → P v h L)
    {T : State} {locs : List Loc} {h : Heap} (X : Stand p l e rmR2 s m args below meth c T locs 0 0) (e0 : T.heap = h) (N : Fr n0 locs) (K : Keep h0 h []) (hv : f2_0 = some rr) :
    own_WP p e below (own_Q s P rmR2.cells rmR2.slots) T (mkF m 0 #[.val (.ref o0)] []) := by
  obtain ⟨hx, hZ, hby, hml, hown, hnm, hret, hlk⟩ := id C
  replace hown : s.vm.findClass "java/lang/Record" = some m.cls := hown
  unfold f2_0 at hv
  show own_WP p e below _ T (mkF m 0 #[.val (.ref o0)] [])
  refine own_go (fun _ => XS.aloadN X.here hx rfl (hb hby d2_0) rfl rfl) ?_
  show own_WP p e below _ T (mkF m 1 #[.val (.ref o0)] [(.ref o0)])
  obtain ⟨T1, X1, e1, st1⟩ := initO X hx hZ hown (hw _ (List.mem_of_getElem? (i := 11) rfl)) (hw _ (List.mem_of_getElem? (i := 12) rfl)) (hw _ (List.mem_of_getElem? (i := 13) rfl)) e0 (g := (mkF m 1 #[.val (.ref o0)] [(.ref o0)])) rfl (by rw [hml]; rfl) rfl (hb hby d2_1) (by decide) (W := 0) (by show 2 * 0 + _ ≤ _; exact Nat.le_of_eq rfl) (by decide)
  refine own_go st1 ?_
  show own_WP p e below _ T1 (mkF m 4 #[.val (.ref o0)] [])
  obtain rfl := Option.some.inj hv
  exact own_retV X1 C (hb hby d2_4) (by rw [e1]; exact hP _ _ _ N K rfl) (by decide) (by decide)
theorem ef2 (m : MethodId) (o0 : Nat) : entryFrame m #[(.ref o0)] 1 = (mkF m 0 #[.val (.ref o0)] []) := by first | (simp [entryFrame, mkF, argsToLocals, Value.category]; done) | rfl
theorem pd2 : parseMethodDescriptor "()V" = some ⟨[], none⟩ := by decide +kernel
theorem pn2 : plainFor (⟨"java/lang/Record", "<init>", "()V"⟩ : MethodName) = true := plainFor_of_name (by first | (simp [plainName, overriddenIn]; done) | decide +kernel)
theorem rm2 (l : Launch) (Z : State) (a0 : Array Value) (hw : ∀ d ∈ tables_1, d.before a0 Z = true) (n0 : Nat) (h0 : Heap) (Z0 : n0 ≤ h0.size) {o0 : Nat}       (rr : Unit) (hf : f2_0 = some rr) :
    own_Met l Z (⟨"java/lang/Record", "<init>", "()V"⟩ : MethodName) jdk_30_method_1_code 1 none [] rmR2 #[(.ref o0)] h0 (fun v h L => Fr n0 L ∧ Keep h0 h [] ∧ E2 Z h0 o0 rr v h) := by
  refine own_body pn2 ?_
  intro p e s m below meth c s₁ C X e0
  exact own_cast (ef2 m o0) (b2_0 hw C Z0 rr (fun v h L a b c => ⟨a, b, c⟩) X e0 (Fr.nil n0) (Keep.refl h0 [])  hf)
theorem d1_0 : decode prog_16_method_1_code 0 = .ok (.aload_n 0, 1) := by decide +kernel
theorem d1_1 : decode prog_16_method_1_code 1 = .ok (.invokespecial 1, 3) := by decide +kernel
theorem d1_4 : decode prog_16_method_1_code 4 = .ok (.aload_n 0, 1) := by decide +kernel
theorem d1_5 : decode prog_16_method_1_code 5 = .ok (.lload_n 1, 1) := by decide +kernel
theorem d1_6 : decode prog_16_method_1_code 6 = .ok (.putfield 7, 3) := by decide +kernel
theorem d1_9 : decode prog_16_method_1_code 9 = .ok (.aload_n 0, 1) := by decide +kernel
theorem d1_10 : decode prog_16_method_1_code 10 = .ok (.iload_n 3, 1) := by decide +kernel
theorem d1_11 : decode prog_16_method_1_code 11 = .ok (.putfield 13, 3) := by decide +kernel
theorem d1_14 : decode prog_16_method_1_code 14 = .ok (.aload_n 0, 1) := by decide +kernel
theorem d1_15 : decode prog_16_method_1_code 15 = .ok (.lload 4, 2) := by decide +kernel
theorem d1_17 : decode prog_16_method_1_code 17 = .ok (.putfield 17, 3) := by decide +kernel
theorem d1_20 : decode prog_16_method_1_code 20 = .ok (.aload_n 0, 1) := by decide +kernel
theorem d1_21 : decode prog_16_method_1_code 21 = .ok (.lload 6, 2) := by decide +kernel
theorem d1_23 : decode prog_16_method_1_code 23 = .ok (.putfield 20, 3) := by decide +kernel
theorem d1_26 : decode prog_16_method_1_code 26 = .ok (.aload_n 0, 1) := by decide +kernel
theorem d1_27 : decode prog_16_method_1_code 27 = .ok (.lload 8, 2) := by decide +kernel
theorem d1_29 : decode prog_16_method_1_code 29 = .ok (.putfield 23, 3) := by decide +kernel
theorem d1_32 : decode prog_16_method_1_code 32 = .ok (.aload_n 0, 1) := by decide +kernel
theorem d1_33 : decode prog_16_method_1_code 33 = .ok (.lload 10, 2) := by decide +kernel
theorem d1_35 : decode prog_16_method_1_code 35 = .ok (.putfield 26, 3) := by decide +kernel
theorem d1_38 : decode prog_16_method_1_code 38 = .ok (.return_, 1) := by decide +kernel
def rmR1 : Room := { frames := 2, cells := 0, slots := 0, locals := 24 }
def E1 (Z : State) (h0 : Heap) (o0 : Nat)  (rr : Int64 × Int32 × Int64 × Int64 × Int64 × Int64) (v : Option Value) (h : Heap) : Prop := v = none ∧ Exa Z h o0 "com/example/uriel/uriel/Standing" ∧ Fld Z h o0 "com/example/uriel/uriel/Standing" "confidence" "J" (.long (rr.1)) ∧ Fld Z h o0 "com/example/uriel/uriel/Standing" "rung" "I" (.int (rr.2.1)) ∧ Fld Z h o0 "com/example/uriel/uriel/Standing" "connections" "J" (.long (rr.2.2.1)) ∧ Fld Z h o0 "com/example/uriel/uriel/Standing" "disconnections" "J" (.long (rr.2.2.2.1)) ∧ Fld Z h o0 "com/example/uriel/uriel/Standing" "maliciousAttempts" "J" (.long (rr.2.2.2.2.1)) ∧ Fld Z h o0 "com/example/uriel/uriel/Standing" "idleDisconnections" "J" (.long (rr.2.2.2.2.2))
def f1_0 (x1 : Int64) (x3 : Int32) (x4 : Int64) (x6 : Int64) (x8 : Int64) (x10 : Int64) : Option (Int64 × Int32 × Int64 × Int64 × Int64 × Int64) := (f2_0.bind fun rr1 => (some (x1, x3, x4, x6, x8, x10)))
set_option maxRecDepth 65536 in
set_option maxHeartbeats 40000000 in
theorem b1_0 {p : Program} {l : Launch} {e : Env} {s : State} {m : MethodId} {args : Array Value} {below : List Frame} {meth : Method} {c : Code} {Z : State} {a0 : Array Value} {h0 : Heap} {n0 : Nat} {P : Option Value → Heap → List Loc → Prop} (hw : ∀ d ∈ tables_1, d.before a0 Z = true) (C : own_Ctx p s m meth c Z (⟨"com/example/uriel/uriel/Standing", "<init>", "(JIJJJJ)V"⟩ : MethodName) prog_16_method_1_code 12 none) (Z0 : n0 ≤ h0.size) {o0 : Nat}  (rr : Int64 × Int32 × Int64 × Int64 × Int64 × Int64) (hP : ∀ v h L, Fr n0 L → Keep h0 h [o0] → E1 Z h0 o0 rr v h → P v h L)
    {T : State} {locs : List Loc} {h : Heap} {c_o0_confidence : Int64} {c_o0_rung : Int32} {c_o0_connections : Int64} {c_o0_disconnections : Int64} {c_o0_maliciousAttempts : Int64} {c_o0_idleDisconnections : Int64} (X : Stand p l e rmR1 s m args below meth c T locs 0 0) (e0 : T.heap = h) (N : Fr n0 locs) (K : Keep h0 h [o0]) (g_o0 : n0 ≤ o0) (E_o0 : Exa Z h o0 "com/example/uriel/uriel/Standing") (F_o0_confidence : Fld Z h o0 "com/example/uriel/uriel/Standing" "confidence" "J" (.long c_o0_confidence)) (F_o0_rung : Fld Z h o0 "com/example/uriel/uriel/Standing" "rung" "I" (.int c_o0_rung)) (F_o0_connections : Fld Z h o0 "com/example/uriel/uriel/Standing" "connections" "J" (.long c_o0_connections)) (F_o0_disconnections : Fld Z h o0 "com/example/uriel/uriel/Standing" "disconnections" "J" (.long c_o0_disconnections)) (F_o0_maliciousAttempts : Fld Z h o0 "com/example/uriel/uriel/Standing" "maliciousAttempts" "J" (.long c_o0_maliciousAttempts)) (F_o0_idleDisconnections : Fld Z h o0 "com/example/uriel/uriel/Standing" "idleDisconnections" "J" (.long c_o0_idleDisconnections)) (x1 : Int64) (x3 : Int32) (x4 : Int64) (x6 : Int64) (x8 : Int64) (x10 : Int64) (hv : f1_0 x1 x3 x4 x6 x8 x10 = some rr) :
    own_WP p e below (own_Q s P rmR1.cells rmR1.slots) T (mkF m 0 #[.val (.ref o0), .val (.long x1), .second, .val (.int x3), .val (.long x4), .second, .val (.long x6), .second, .val (.long x8), .second, .val (.long x10), .second] []) := by
  obtain ⟨hx, hZ, hby, hml, hown, hnm, hret, hlk⟩ := id C
  replace hown : s.vm.findClass "com/example/uriel/uriel/Standing" = some m.cls := hown
  unfold f1_0 at hv
  show own_WP p e below _ T (mkF m 0 #[.val (.ref o0), .val (.long x1), .second, .val (.int x3), .val (.long x4), .second, .val (.long x6), .second, .val (.long x8), .second, .val (.long x10), .second] [])
  refine own_go (fun _ => XS.aloadN X.here hx rfl (hb hby d1_0) rfl rfl) ?_
  show own_WP p e below _ T (mkF m 1 #[.val (.ref o0), .val (.long x1), .second, .val (.int x3), .val (.long x4), .second, .val (.long x6), .second, .val (.long x8), .second, .val (.long x10), .second] [(.ref o0)])
  obtain ⟨rr1, hf1, hv⟩ := own_bind hv
  obtain ⟨T1, v1, L1, X1, ⟨N1, K1, Q1⟩, st1⟩ := own_callN X C (a := o0) (argsL := []) (rm2 l Z a0 hw n0 h (by have q := K.1; omega) (o0 := o0) rr1 hf1) rfl (hw _ (List.mem_of_getElem? (i := 6) rfl)) (hw _ (List.mem_of_getElem? (i := 7) rfl)) (hw _ (List.mem_of_getElem? (i := 9) rfl)) (hw _ (List.mem_of_getElem? (i := 10) rfl)) (by decide) e0 (W := 0) (pc := 1) (Ls := #[.val (.ref o0), .val (.long x1), .second, .val (.int x3), .val (.long x4), .second, .val (.long x6), .second, .val (.long x8), .second, .val (.long x10), .second]) rfl (lenOf pd2 rfl) (rest := []) (stk := [(.ref o0)]) rfl (Nat.le_of_ble_eq_true rfl) (hb hby d1_1) (by decide) (by decide) (by decide) (by decide)
  replace N := Fr.app N N1
  replace E_o0 := E_o0.keep K1
  replace F_o0_confidence := F_o0_confidence.keep K1 nin0
  replace F_o0_rung := F_o0_rung.keep K1 nin0
  replace F_o0_connections := F_o0_connections.keep K1 nin0
  replace F_o0_disconnections := F_o0_disconnections.keep K1 nin0
  replace F_o0_maliciousAttempts := F_o0_maliciousAttempts.keep K1 nin0
  replace F_o0_idleDisconnections := F_o0_idleDisconnections.keep K1 nin0
  obtain ⟨rfl⟩ := Q1
  replace K := K.trans K1 all0
  refine own_go st1 ?_
  show own_WP p e below _ T1 (mkF m 4 #[.val (.ref o0), .val (.long x1), .second, .val (.int x3), .val (.long x4), .second, .val (.long x6), .second, .val (.long x8), .second, .val (.long x10), .second] [])
  refine own_go (fun _ => XS.aloadN X1.here hx rfl (hb hby d1_4) rfl rfl) ?_
  show own_WP p e below _ T1 (mkF m 5 #[.val (.ref o0), .val (.long x1), .second, .val (.int x3), .val (.long x4), .second, .val (.long x6), .second, .val (.long x8), .second, .val (.long x10), .second] [(.ref o0)])
  refine own_go (fun _ => XS.lloadN X1.here hx rfl (hb hby d1_5) rfl) ?_
  show own_WP p e below _ T1 (mkF m 6 #[.val (.ref o0), .val (.long x1), .second, .val (.int x3), .val (.long x4), .second, .val (.long x6), .second, .val (.long x8), .second, .val (.long x10), .second] [(.long x1), (.ref o0)])
  obtain ⟨T2, h2, X2, e2, W2, st2⟩ := putF X1 hx hZ hown (host := "") (Or.inl (hw _ (List.mem_of_getElem? (i := 14) rfl))) Via.refl (rfl : T1.heap = T1.heap) F_o0_confidence E_o0 (Or.inr ⟨(hw _ (List.mem_of_getElem? (i := 15) rfl)), rfl, hnm⟩) (hw _ (List.mem_of_getElem? (i := 1) rfl)) (ty := .long) (by decide) rfl rfl (g := (mkF m 6 #[.val (.ref o0), .val (.long x1), .second, .val (.int x3), .val (.long x4), .second, .val (.long x6), .second, .val (.long x8), .second, .val (.long x10), .second] [(.long x1), (.ref o0)])) rfl rfl (hb hby d1_6)
  refine own_go st2 ?_
  replace E_o0 := E_o0.wr W2
  replace F_o0_confidence := F_o0_confidence.same W2
  replace F_o0_rung := F_o0_rung.other W2 (Or.inr (slot_ne (Or.inr (hw _ (List.mem_of_getElem? (i := 17) rfl))) (Or.inr (hw _ (List.mem_of_getElem? (i := 15) rfl))) (by decide) (t := .int) (t' := .long) (by decide) (by decide)))
  replace F_o0_connections := F_o0_connections.other W2 (Or.inr (slot_ne (Or.inr (hw _ (List.mem_of_getElem? (i := 19) rfl))) (Or.inr (hw _ (List.mem_of_getElem? (i := 15) rfl))) (by decide) (t := .long) (t' := .long) (by decide) (by decide)))
  replace F_o0_disconnections := F_o0_disconnections.other W2 (Or.inr (slot_ne (Or.inr (hw _ (List.mem_of_getElem? (i := 21) rfl))) (Or.inr (hw _ (List.mem_of_getElem? (i := 15) rfl))) (by decide) (t := .long) (t' := .long) (by decide) (by decide)))
  replace F_o0_maliciousAttempts := F_o0_maliciousAttempts.other W2 (Or.inr (slot_ne (Or.inr (hw _ (List.mem_of_getElem? (i := 23) rfl))) (Or.inr (hw _ (List.mem_of_getElem? (i := 15) rfl))) (by decide) (t := .long) (t' := .long) (by decide) (by decide)))
  replace F_o0_idleDisconnections := F_o0_idleDisconnections.other W2 (Or.inr (slot_ne (Or.inr (hw _ (List.mem_of_getElem? (i := 25) rfl))) (Or.inr (hw _ (List.mem_of_getElem? (i := 15) rfl))) (by decide) (t := .long) (t' := .long) (by decide) (by decide)))
  replace K := K.wr W2 (Or.inl (List.mem_of_getElem? (i := 0) rfl))
  replace N := Fr.snoc X2 N (by omega)
  show own_WP p e below _ T2 (mkF m 9 #[.val (.ref o0), .val (.long x1), .second, .val (.int x3), .val (.long x4), .second, .val (.long x6), .second, .val (.long x8), .second, .val (.long x10), .second] [])
  refine own_go (fun _ => XS.aloadN X2.here hx rfl (hb hby d1_9) rfl rfl) ?_
  show own_WP p e below _ T2 (mkF m 10 #[.val (.ref o0), .val (.long x1), .second, .val (.int x3), .val (.long x4), .second, .val (.long x6), .second, .val (.long x8), .second, .val (.long x10), .second] [(.ref o0)])
  refine own_go (fun _ => XS.iloadN X2.here hx rfl (hb hby d1_10) rfl) ?_
  show own_WP p e below _ T2 (mkF m 11 #[.val (.ref o0), .val (.long x1), .second, .val (.int x3), .val (.long x4), .second, .val (.long x6), .second, .val (.long x8), .second, .val (.long x10), .second] [(.int x3), (.ref o0)])
  obtain ⟨T3, h3, X3, e3, W3, st3⟩ := putF X2 hx hZ hown (host := "") (Or.inl (hw _ (List.mem_of_getElem? (i := 16) rfl))) Via.refl e2 F_o0_rung E_o0 (Or.inr ⟨(hw _ (List.mem_of_getElem? (i := 17) rfl)), rfl, hnm⟩) (hw _ (List.mem_of_getElem? (i := 1) rfl)) (ty := .int) (by decide) rfl rfl (g := (mkF m 11 #[.val (.ref o0), .val (.long x1), .second, .val (.int x3), .val (.long x4), .second, .val (.long x6), .second, .val (.long x8), .second, .val (.long x10), .second] [(.int x3), (.ref o0)])) rfl rfl (hb hby d1_11)
  refine own_go st3 ?_
  replace E_o0 := E_o0.wr W3
  replace F_o0_confidence := F_o0_confidence.other W3 (Or.inr (slot_ne (Or.inr (hw _ (List.mem_of_getElem? (i := 15) rfl))) (Or.inr (hw _ (List.mem_of_getElem? (i := 17) rfl))) (by decide) (t := .long) (t' := .int) (by decide) (by decide)))
  replace F_o0_rung := F_o0_rung.same W3
  replace F_o0_connections := F_o0_connections.other W3 (Or.inr (slot_ne (Or.inr (hw _ (List.mem_of_getElem? (i := 19) rfl))) (Or.inr (hw _ (List.mem_of_getElem? (i := 17) rfl))) (by decide) (t := .long) (t' := .int) (by decide) (by decide)))
  replace F_o0_disconnections := F_o0_disconnections.other W3 (Or.inr (slot_ne (Or.inr (hw _ (List.mem_of_getElem? (i := 21) rfl))) (Or.inr (hw _ (List.mem_of_getElem? (i := 17) rfl))) (by decide) (t := .long) (t' := .int) (by decide) (by decide)))
  replace F_o0_maliciousAttempts := F_o0_maliciousAttempts.other W3 (Or.inr (slot_ne (Or.inr (hw _ (List.mem_of_getElem? (i := 23) rfl))) (Or.inr (hw _ (List.mem_of_getElem? (i := 17) rfl))) (by decide) (t := .long) (t' := .int) (by decide) (by decide)))
  replace F_o0_idleDisconnections := F_o0_idleDisconnections.other W3 (Or.inr (slot_ne (Or.inr (hw _ (List.mem_of_getElem? (i := 25) rfl))) (Or.inr (hw _ (List.mem_of_getElem? (i := 17) rfl))) (by decide) (t := .long) (t' := .int) (by decide) (by decide)))
  replace K := K.wr W3 (Or.inl (List.mem_of_getElem? (i := 0) rfl))
  replace N := Fr.snoc X3 N (by omega)
  show own_WP p e below _ T3 (mkF m 14 #[.val (.ref o0), .val (.long x1), .second, .val (.int x3), .val (.long x4), .second, .val (.long x6), .second, .val (.long x8), .second, .val (.long x10), .second] [])
  refine own_go (fun _ => XS.aloadN X3.here hx rfl (hb hby d1_14) rfl rfl) ?_
  show own_WP p e below _ T3 (mkF m 15 #[.val (.ref o0), .val (.long x1), .second, .val (.int x3), .val (.long x4), .second, .val (.long x6), .second, .val (.long x8), .second, .val (.long x10), .second] [(.ref o0)])
  refine own_go (fun _ => XS.lload X3.here hx rfl (hb hby d1_15) rfl) ?_
  show own_WP p e below _ T3 (mkF m 17 #[.val (.ref o0), .val (.long x1), .second, .val (.int x3), .val (.long x4), .second, .val (.long x6), .second, .val (.long x8), .second, .val (.long x10), .second] [(.long x4), (.ref o0)])
  obtain ⟨T4, h4, X4, e4, W4, st4⟩ := putF X3 hx hZ hown (host := "") (Or.inl (hw _ (List.mem_of_getElem? (i := 18) rfl))) Via.refl e3 F_o0_connections E_o0 (Or.inr ⟨(hw _ (List.mem_of_getElem? (i := 19) rfl)), rfl, hnm⟩) (hw _ (List.mem_of_getElem? (i := 1) rfl)) (ty := .long) (by decide) rfl rfl (g := (mkF m 17 #[.val (.ref o0), .val (.long x1), .second, .val (.int x3), .val (.long x4), .second, .val (.long x6), .second, .val (.long x8), .second, .val (.long x10), .second] [(.long x4), (.ref o0)])) rfl rfl (hb hby d1_17)
  refine own_go st4 ?_
  replace E_o0 := E_o0.wr W4
  replace F_o0_confidence := F_o0_confidence.other W4 (Or.inr (slot_ne (Or.inr (hw _ (List.mem_of_getElem? (i := 15) rfl))) (Or.inr (hw _ (List.mem_of_getElem? (i := 19) rfl))) (by decide) (t := .long) (t' := .long) (by decide) (by decide)))
  replace F_o0_rung := F_o0_rung.other W4 (Or.inr (slot_ne (Or.inr (hw _ (List.mem_of_getElem? (i := 17) rfl))) (Or.inr (hw _ (List.mem_of_getElem? (i := 19) rfl))) (by decide) (t := .int) (t' := .long) (by decide) (by decide)))
  replace F_o0_connections := F_o0_connections.same W4
  replace F_o0_disconnections := F_o0_disconnections.other W4 (Or.inr (slot_ne (Or.inr (hw _ (List.mem_of_getElem? (i := 21) rfl))) (Or.inr (hw _ (List.mem_of_getElem? (i := 19) rfl))) (by decide) (t := .long) (t' := .long) (by decide) (by decide)))
  replace F_o0_maliciousAttempts := F_o0_maliciousAttempts.other W4 (Or.inr (slot_ne (Or.inr (hw _ (List.mem_of_getElem? (i := 23) rfl))) (Or.inr (hw _ (List.mem_of_getElem? (i := 19) rfl))) (by decide) (t := .long) (t' := .long) (by decide) (by decide)))
  replace F_o0_idleDisconnections := F_o0_idleDisconnections.other W4 (Or.inr (slot_ne (Or.inr (hw _ (List.mem_of_getElem? (i := 25) rfl))) (Or.inr (hw _ (List.mem_of_getElem? (i := 19) rfl))) (by decide) (t := .long) (t' := .long) (by decide) (by decide)))
  replace K := K.wr W4 (Or.inl (List.mem_of_getElem? (i := 0) rfl))
  replace N := Fr.snoc X4 N (by omega)
  show own_WP p e below _ T4 (mkF m 20 #[.val (.ref o0), .val (.long x1), .second, .val (.int x3), .val (.long x4), .second, .val (.long x6), .second, .val (.long x8), .second, .val (.long x10), .second] [])
  refine own_go (fun _ => XS.aloadN X4.here hx rfl (hb hby d1_20) rfl rfl) ?_
  show own_WP p e below _ T4 (mkF m 21 #[.val (.ref o0), .val (.long x1), .second, .val (.int x3), .val (.long x4), .second, .val (.long x6), .second, .val (.long x8), .second, .val (.long x10), .second] [(.ref o0)])
  refine own_go (fun _ => XS.lload X4.here hx rfl (hb hby d1_21) rfl) ?_
  show own_WP p e below _ T4 (mkF m 23 #[.val (.ref o0), .val (.long x1), .second, .val (.int x3), .val (.long x4), .second, .val (.long x6), .second, .val (.long x8), .second, .val (.long x10), .second] [(.long x6), (.ref o0)])
  obtain ⟨T5, h5, X5, e5, W5, st5⟩ := putF X4 hx hZ hown (host := "") (Or.inl (hw _ (List.mem_of_getElem? (i := 20) rfl))) Via.refl e4 F_o0_disconnections E_o0 (Or.inr ⟨(hw _ (List.mem_of_getElem? (i := 21) rfl)), rfl, hnm⟩) (hw _ (List.mem_of_getElem? (i := 1) rfl)) (ty := .long) (by decide) rfl rfl (g := (mkF m 23 #[.val (.ref o0), .val (.long x1), .second, .val (.int x3), .val (.long x4), .second, .val (.long x6), .second, .val (.long x8), .second, .val (.long x10), .second] [(.long x6), (.ref o0)])) rfl rfl (hb hby d1_23)
  refine own_go st5 ?_
  replace E_o0 := E_o0.wr W5
  replace F_o0_confidence := F_o0_confidence.other W5 (Or.inr (slot_ne (Or.inr (hw _ (List.mem_of_getElem? (i := 15) rfl))) (Or.inr (hw _ (List.mem_of_getElem? (i := 21) rfl))) (by decide) (t := .long) (t' := .long) (by decide) (by decide)))
  replace F_o0_rung := F_o0_rung.other W5 (Or.inr (slot_ne (Or.inr (hw _ (List.mem_of_getElem? (i := 17) rfl))) (Or.inr (hw _ (List.mem_of_getElem? (i := 21) rfl))) (by decide) (t := .int) (t' := .long) (by decide) (by decide)))
  replace F_o0_connections := F_o0_connections.other W5 (Or.inr (slot_ne (Or.inr (hw _ (List.mem_of_getElem? (i := 19) rfl))) (Or.inr (hw _ (List.mem_of_getElem? (i := 21) rfl))) (by decide) (t := .long) (t' := .long) (by decide) (by decide)))
  replace F_o0_disconnections := F_o0_disconnections.same W5
  replace F_o0_maliciousAttempts := F_o0_maliciousAttempts.other W5 (Or.inr (slot_ne (Or.inr (hw _ (List.mem_of_getElem? (i := 23) rfl))) (Or.inr (hw _ (List.mem_of_getElem? (i := 21) rfl))) (by decide) (t := .long) (t' := .long) (by decide) (by decide)))
  replace F_o0_idleDisconnections := F_o0_idleDisconnections.other W5 (Or.inr (slot_ne (Or.inr (hw _ (List.mem_of_getElem? (i := 25) rfl))) (Or.inr (hw _ (List.mem_of_getElem? (i := 21) rfl))) (by decide) (t := .long) (t' := .long) (by decide) (by decide)))
  replace K := K.wr W5 (Or.inl (List.mem_of_getElem? (i := 0) rfl))
  replace N := Fr.snoc X5 N (by omega)
  show own_WP p e below _ T5 (mkF m 26 #[.val (.ref o0), .val (.long x1), .second, .val (.int x3), .val (.long x4), .second, .val (.long x6), .second, .val (.long x8), .second, .val (.long x10), .second] [])
  refine own_go (fun _ => XS.aloadN X5.here hx rfl (hb hby d1_26) rfl rfl) ?_
  show own_WP p e below _ T5 (mkF m 27 #[.val (.ref o0), .val (.long x1), .second, .val (.int x3), .val (.long x4), .second, .val (.long x6), .second, .val (.long x8), .second, .val (.long x10), .second] [(.ref o0)])
  refine own_go (fun _ => XS.lload X5.here hx rfl (hb hby d1_27) rfl) ?_
  show own_WP p e below _ T5 (mkF m 29 #[.val (.ref o0), .val (.long x1), .second, .val (.int x3), .val (.long x4), .second, .val (.long x6), .second, .val (.long x8), .second, .val (.long x10), .second] [(.long x8), (.ref o0)])
  obtain ⟨T6, h6, X6, e6, W6, st6⟩ := putF X5 hx hZ hown (host := "") (Or.inl (hw _ (List.mem_of_getElem? (i := 22) rfl))) Via.refl e5 F_o0_maliciousAttempts E_o0 (Or.inr ⟨(hw _ (List.mem_of_getElem? (i := 23) rfl)), rfl, hnm⟩) (hw _ (List.mem_of_getElem? (i := 1) rfl)) (ty := .long) (by decide) rfl rfl (g := (mkF m 29 #[.val (.ref o0), .val (.long x1), .second, .val (.int x3), .val (.long x4), .second, .val (.long x6), .second, .val (.long x8), .second, .val (.long x10), .second] [(.long x8), (.ref o0)])) rfl rfl (hb hby d1_29)
  refine own_go st6 ?_
  replace E_o0 := E_o0.wr W6
  replace F_o0_confidence := F_o0_confidence.other W6 (Or.inr (slot_ne (Or.inr (hw _ (List.mem_of_getElem? (i := 15) rfl))) (Or.inr (hw _ (List.mem_of_getElem? (i := 23) rfl))) (by decide) (t := .long) (t' := .long) (by decide) (by decide)))
  replace F_o0_rung := F_o0_rung.other W6 (Or.inr (slot_ne (Or.inr (hw _ (List.mem_of_getElem? (i := 17) rfl))) (Or.inr (hw _ (List.mem_of_getElem? (i := 23) rfl))) (by decide) (t := .int) (t' := .long) (by decide) (by decide)))
  replace F_o0_connections := F_o0_connections.other W6 (Or.inr (slot_ne (Or.inr (hw _ (List.mem_of_getElem? (i := 19) rfl))) (Or.inr (hw _ (List.mem_of_getElem? (i := 23) rfl))) (by decide) (t := .long) (t' := .long) (by decide) (by decide)))
  replace F_o0_disconnections := F_o0_disconnections.other W6 (Or.inr (slot_ne (Or.inr (hw _ (List.mem_of_getElem? (i := 21) rfl))) (Or.inr (hw _ (List.mem_of_getElem? (i := 23) rfl))) (by decide) (t := .long) (t' := .long) (by decide) (by decide)))
  replace F_o0_maliciousAttempts := F_o0_maliciousAttempts.same W6
  replace F_o0_idleDisconnections := F_o0_idleDisconnections.other W6 (Or.inr (slot_ne (Or.inr (hw _ (List.mem_of_getElem? (i := 25) rfl))) (Or.inr (hw _ (List.mem_of_getElem? (i := 23) rfl))) (by decide) (t := .long) (t' := .long) (by decide) (by decide)))
  replace K := K.wr W6 (Or.inl (List.mem_of_getElem? (i := 0) rfl))
  replace N := Fr.snoc X6 N (by omega)
  show own_WP p e below _ T6 (mkF m 32 #[.val (.ref o0), .val (.long x1), .second, .val (.int x3), .val (.long x4), .second, .val (.long x6), .second, .val (.long x8), .second, .val (.long x10), .second] [])
  refine own_go (fun _ => XS.aloadN X6.here hx rfl (hb hby d1_32) rfl rfl) ?_
  show own_WP p e below _ T6 (mkF m 33 #[.val (.ref o0), .val (.long x1), .second, .val (.int x3), .val (.long x4), .second, .val (.long x6), .second, .val (.long x8), .second, .val (.long x10), .second] [(.ref o0)])
  refine own_go (fun _ => XS.lload X6.here hx rfl (hb hby d1_33) rfl) ?_
  show own_WP p e below _ T6 (mkF m 35 #[.val (.ref o0), .val (.long x1), .second, .val (.int x3), .val (.long x4), .second, .val (.long x6), .second, .val (.long x8), .second, .val (.long x10), .second] [(.long x10), (.ref o0)])
  obtain ⟨T7, h7, X7, e7, W7, st7⟩ := putF X6 hx hZ hown (host := "") (Or.inl (hw _ (List.mem_of_getElem? (i := 24) rfl))) Via.refl e6 F_o0_idleDisconnections E_o0 (Or.inr ⟨(hw _ (List.mem_of_getElem? (i := 25) rfl)), rfl, hnm⟩) (hw _ (List.mem_of_getElem? (i := 1) rfl)) (ty := .long) (by decide) rfl rfl (g := (mkF m 35 #[.val (.ref o0), .val (.long x1), .second, .val (.int x3), .val (.long x4), .second, .val (.long x6), .second, .val (.long x8), .second, .val (.long x10), .second] [(.long x10), (.ref o0)])) rfl rfl (hb hby d1_35)
  refine own_go st7 ?_
  replace E_o0 := E_o0.wr W7
  replace F_o0_confidence := F_o0_confidence.other W7 (Or.inr (slot_ne (Or.inr (hw _ (List.mem_of_getElem? (i := 15) rfl))) (Or.inr (hw _ (List.mem_of_getElem? (i := 25) rfl))) (by decide) (t := .long) (t' := .long) (by decide) (by decide)))
  replace F_o0_rung := F_o0_rung.other W7 (Or.inr (slot_ne (Or.inr (hw _ (List.mem_of_getElem? (i := 17) rfl))) (Or.inr (hw _ (List.mem_of_getElem? (i := 25) rfl))) (by decide) (t := .int) (t' := .long) (by decide) (by decide)))
  replace F_o0_connections := F_o0_connections.other W7 (Or.inr (slot_ne (Or.inr (hw _ (List.mem_of_getElem? (i := 19) rfl))) (Or.inr (hw _ (List.mem_of_getElem? (i := 25) rfl))) (by decide) (t := .long) (t' := .long) (by decide) (by decide)))
  replace F_o0_disconnections := F_o0_disconnections.other W7 (Or.inr (slot_ne (Or.inr (hw _ (List.mem_of_getElem? (i := 21) rfl))) (Or.inr (hw _ (List.mem_of_getElem? (i := 25) rfl))) (by decide) (t := .long) (t' := .long) (by decide) (by decide)))
  replace F_o0_maliciousAttempts := F_o0_maliciousAttempts.other W7 (Or.inr (slot_ne (Or.inr (hw _ (List.mem_of_getElem? (i := 23) rfl))) (Or.inr (hw _ (List.mem_of_getElem? (i := 25) rfl))) (by decide) (t := .long) (t' := .long) (by decide) (by decide)))
  replace F_o0_idleDisconnections := F_o0_idleDisconnections.same W7
  replace K := K.wr W7 (Or.inl (List.mem_of_getElem? (i := 0) rfl))
  replace N := Fr.snoc X7 N (by omega)
  show own_WP p e below _ T7 (mkF m 38 #[.val (.ref o0), .val (.long x1), .second, .val (.int x3), .val (.long x4), .second, .val (.long x6), .second, .val (.long x8), .second, .val (.long x10), .second] [])
  obtain rfl := Option.some.inj hv
  exact own_retV X7 C (hb hby d1_38) (by rw [e7]; exact hP _ _ _ N K ⟨rfl, E_o0, F_o0_confidence, F_o0_rung, F_o0_connections, F_o0_disconnections, F_o0_maliciousAttempts, F_o0_idleDisconnections⟩) (by decide) (by decide)
theorem ef1 (m : MethodId) (o0 : Nat) (x1 : Int64) (x3 : Int32) (x4 : Int64) (x6 : Int64) (x8 : Int64) (x10 : Int64) : entryFrame m #[(.ref o0), (.long x1), (.int x3), (.long x4), (.long x6), (.long x8), (.long x10)] 12 = (mkF m 0 #[.val (.ref o0), .val (.long x1), .second, .val (.int x3), .val (.long x4), .second, .val (.long x6), .second, .val (.long x8), .second, .val (.long x10), .second] []) := by first | (simp [entryFrame, mkF, argsToLocals, Value.category]; done) | rfl
theorem pd1 : parseMethodDescriptor "(JIJJJJ)V" = some ⟨[.long, .int, .long, .long, .long, .long], none⟩ := by decide +kernel
theorem pn1 : plainFor (⟨"com/example/uriel/uriel/Standing", "<init>", "(JIJJJJ)V"⟩ : MethodName) = true := plainFor_of_name (by first | (simp [plainName, overriddenIn]; done) | decide +kernel)
theorem rm1 (l : Launch) (Z : State) (a0 : Array Value) (hw : ∀ d ∈ tables_1, d.before a0 Z = true) (n0 : Nat) (h0 : Heap) (Z0 : n0 ≤ h0.size) {o0 : Nat} {c_o0_confidence : Int64} {c_o0_rung : Int32} {c_o0_connections : Int64} {c_o0_disconnections : Int64} {c_o0_maliciousAttempts : Int64} {c_o0_idleDisconnections : Int64}  (g_o0 : n0 ≤ o0) (E_o0 : Exa Z h0 o0 "com/example/uriel/uriel/Standing") (F_o0_confidence : Fld Z h0 o0 "com/example/uriel/uriel/Standing" "confidence" "J" (.long c_o0_confidence)) (F_o0_rung : Fld Z h0 o0 "com/example/uriel/uriel/Standing" "rung" "I" (.int c_o0_rung)) (F_o0_connections : Fld Z h0 o0 "com/example/uriel/uriel/Standing" "connections" "J" (.long c_o0_connections)) (F_o0_disconnections : Fld Z h0 o0 "com/example/uriel/uriel/Standing" "disconnections" "J" (.long c_o0_disconnections)) (F_o0_maliciousAttempts : Fld Z h0 o0 "com/example/uriel/uriel/Standing" "maliciousAttempts" "J" (.long c_o0_maliciousAttempts)) (F_o0_idleDisconnections : Fld Z h0 o0 "com/example/uriel/uriel/Standing" "idleDisconnections" "J" (.long c_o0_idleDisconnections)) (x1 : Int64) (x3 : Int32) (x4 : Int64) (x6 : Int64) (x8 : Int64) (x10 : Int64)  (rr : Int64 × Int32 × Int64 × Int64 × Int64 × Int64) (hf : f1_0 x1 x3 x4 x6 x8 x10 = some rr) :
    own_Met l Z (⟨"com/example/uriel/uriel/Standing", "<init>", "(JIJJJJ)V"⟩ : MethodName) prog_16_method_1_code 12 none [] rmR1 #[(.ref o0), (.long x1), (.int x3), (.long x4), (.long x6), (.long x8), (.long x10)] h0 (fun v h L => Fr n0 L ∧ Keep h0 h [o0] ∧ E1 Z h0 o0 rr v h) := by
  refine own_body pn1 ?_
  intro p e s m below meth c s₁ C X e0
  exact own_cast (ef1 m o0 x1 x3 x4 x6 x8 x10) (b1_0 hw C Z0 rr (fun v h L a b c => ⟨a, b, c⟩) X e0 (Fr.nil n0) (Keep.refl h0 [o0]) g_o0 E_o0 F_o0_confidence F_o0_rung F_o0_connections F_o0_disconnections F_o0_maliciousAttempts F_o0_idleDisconnections x1 x3 x4 x6 x8 x10 hf)
theorem d4_0 : decode prog_16_method_5_code 0 = .ok (.aload_n 0, 1) := by decide +kernel
theorem d4_1 : decode prog_16_method_5_code 1 = .ok (.getfield 7, 3) := by decide +kernel
theorem d4_4 : decode prog_16_method_5_code 4 = .ok (.aload_n 1, 1) := by decide +kernel
theorem d4_5 : decode prog_16_method_5_code 5 = .ok (.getfield 7, 3) := by decide +kernel
theorem d4_8 : decode prog_16_method_5_code 8 = .ok (.lcmp, 1) := by decide +kernel
theorem d4_9 : decode prog_16_method_5_code 9 = .ok (.ifCond .ne 50, 3) := by decide +kernel
theorem d4_12 : decode prog_16_method_5_code 12 = .ok (.aload_n 0, 1) := by decide +kernel
theorem d4_13 : decode prog_16_method_5_code 13 = .ok (.getfield 13, 3) := by decide +kernel
theorem d4_16 : decode prog_16_method_5_code 16 = .ok (.aload_n 1, 1) := by decide +kernel
theorem d4_17 : decode prog_16_method_5_code 17 = .ok (.getfield 13, 3) := by decide +kernel
theorem d4_20 : decode prog_16_method_5_code 20 = .ok (.if_icmp .ne 39, 3) := by decide +kernel
theorem d4_23 : decode prog_16_method_5_code 23 = .ok (.aload_n 0, 1) := by decide +kernel
theorem d4_24 : decode prog_16_method_5_code 24 = .ok (.getfield 23, 3) := by decide +kernel
theorem d4_27 : decode prog_16_method_5_code 27 = .ok (.lconst 0, 1) := by decide +kernel
theorem d4_28 : decode prog_16_method_5_code 28 = .ok (.lcmp, 1) := by decide +kernel
theorem d4_29 : decode prog_16_method_5_code 29 = .ok (.ifCond .ne 30, 3) := by decide +kernel
theorem d4_32 : decode prog_16_method_5_code 32 = .ok (.aload_n 0, 1) := by decide +kernel
theorem d4_33 : decode prog_16_method_5_code 33 = .ok (.getfield 26, 3) := by decide +kernel
theorem d4_36 : decode prog_16_method_5_code 36 = .ok (.lconst 0, 1) := by decide +kernel
theorem d4_37 : decode prog_16_method_5_code 37 = .ok (.lcmp, 1) := by decide +kernel
theorem d4_38 : decode prog_16_method_5_code 38 = .ok (.ifCond .ne 21, 3) := by decide +kernel
theorem d4_41 : decode prog_16_method_5_code 41 = .ok (.aload_n 0, 1) := by decide +kernel
theorem d4_42 : decode prog_16_method_5_code 42 = .ok (.getfield 17, 3) := by decide +kernel
theorem d4_45 : decode prog_16_method_5_code 45 = .ok (.aload_n 0, 1) := by decide +kernel
theorem d4_46 : decode prog_16_method_5_code 46 = .ok (.getfield 20, 3) := by decide +kernel
theorem d4_49 : decode prog_16_method_5_code 49 = .ok (.lsub, 1) := by decide +kernel
theorem d4_50 : decode prog_16_method_5_code 50 = .ok (.lconst 1, 1) := by decide +kernel
theorem d4_51 : decode prog_16_method_5_code 51 = .ok (.lcmp, 1) := by decide +kernel
theorem d4_52 : decode prog_16_method_5_code 52 = .ok (.ifCond .gt 7, 3) := by decide +kernel
theorem d4_55 : decode prog_16_method_5_code 55 = .ok (.iconst 1, 1) := by decide +kernel
theorem d4_56 : decode prog_16_method_5_code 56 = .ok (.goto 4, 3) := by decide +kernel
theorem d4_59 : decode prog_16_method_5_code 59 = .ok (.iconst 0, 1) := by decide +kernel
theorem d4_60 : decode prog_16_method_5_code 60 = .ok (.ireturn, 1) := by decide +kernel
def rmR4 : Room := { frames := 0, cells := 0, slots := 0, locals := 0 }
def E4 (Z : State) (h0 : Heap) (o1 : Nat) (o0 : Nat) (t_confidence : Int64) (t_rung : Int32) (t_connections : Int64) (t_disconnections : Int64) (t_maliciousAttempts : Int64) (t_idleDisconnections : Int64) (s_confidence : Int64) (s_rung : Int32) (s_connections : Int64) (s_disconnections : Int64) (s_maliciousAttempts : Int64) (s_idleDisconnections : Int64) (rr : Int32) (v : Option Value) (h : Heap) : Prop := v = some (.int rr)
def f4_0 (t_confidence : Int64) (t_rung : Int32) (s_confidence : Int64) (s_rung : Int32) (s_connections : Int64) (s_disconnections : Int64) (s_maliciousAttempts : Int64) (s_idleDisconnections : Int64) : Option (Int32) := (if s_confidence = t_confidence then (if s_rung = t_rung then (if s_maliciousAttempts = (0 : Int64) then (if s_idleDisconnections = (0 : Int64) then (if (1 : Int64) < (s_connections - s_disconnections) then (some (0 : Int32)) else (some (1 : Int32))) else (some (0 : Int32))) else (some (0 : Int32))) else (some (0 : Int32))) else (some (0 : Int32)))
set_option maxRecDepth 65536 in
set_option maxHeartbeats 40000000 in
theorem b4_0 {p : Program} {l : Launch} {e : Env} {s : State} {m : MethodId} {args : Array Value} {below : List Frame} {meth : Method} {c : Code} {Z : State} {a0 : Array Value} {h0 : Heap} {n0 : Nat} {P : Option Value → Heap → List Loc → Prop} (hw : ∀ d ∈ tables_1, d.before a0 Z = true) (C : own_Ctx p s m meth c Z (⟨"com/example/uriel/uriel/Standing", "asStarted", "(Lcom/example/uriel/uriel/Standing;)Z"⟩ : MethodName) prog_16_method_5_code 2 (some .boolean)) (Z0 : n0 ≤ h0.size) {o1 : Nat} {o0 : Nat} {t_confidence : Int64} {t_rung : Int32} {t_connections : Int64} {t_disconnections : Int64} {t_maliciousAttempts : Int64} {t_idleDisconnections : Int64} {s_confidence : Int64} {s_rung : Int32} {s_connections : Int64} {s_disconnections : Int64} {s_maliciousAttempts : Int64} {s_idleDisconnections : Int64} (rr : Int32) (hP : ∀ v h L, Fr n0 L → Keep h0 h [] → E4 Z h0 o1 o0 t_confidence t_rung t_connections t_disconnections t_maliciousAttempts t_idleDisconnections s_confidence s_rung s_connections s_disconnections s_maliciousAttempts s_idleDisconnections rr v h → P v h L)
    {T : State} {locs : List Loc} {h : Heap} (X : Stand p l e rmR4 s m args below meth c T locs 0 0) (e0 : T.heap = h) (N : Fr n0 locs) (K : Keep h0 h []) (o_o1_o0 : o1 < o0) (g_o1 : n0 ≤ o1) (E_o1 : Exa Z h o1 "com/example/uriel/uriel/Standing") (F_o1_confidence : Fld Z h o1 "com/example/uriel/uriel/Standing" "confidence" "J" (.long t_confidence)) (F_o1_rung : Fld Z h o1 "com/example/uriel/uriel/Standing" "rung" "I" (.int t_rung)) (F_o1_connections : Fld Z h o1 "com/example/uriel/uriel/Standing" "connections" "J" (.long t_connections)) (F_o1_disconnections : Fld Z h o1 "com/example/uriel/uriel/Standing" "disconnections" "J" (.long t_disconnections)) (F_o1_maliciousAttempts : Fld Z h o1 "com/example/uriel/uriel/Standing" "maliciousAttempts" "J" (.long t_maliciousAttempts)) (F_o1_idleDisconnections : Fld Z h o1 "com/example/uriel/uriel/Standing" "idleDisconnections" "J" (.long t_idleDisconnections)) (E_o0 : Exa Z h o0 "com/example/uriel/uriel/Standing") (F_o0_confidence : Fld Z h o0 "com/example/uriel/uriel/Standing" "confidence" "J" (.long s_confidence)) (F_o0_rung : Fld Z h o0 "com/example/uriel/uriel/Standing" "rung" "I" (.int s_rung)) (F_o0_connections : Fld Z h o0 "com/example/uriel/uriel/Standing" "connections" "J" (.long s_connections)) (F_o0_disconnections : Fld Z h o0 "com/example/uriel/uriel/Standing" "disconnections" "J" (.long s_disconnections)) (F_o0_maliciousAttempts : Fld Z h o0 "com/example/uriel/uriel/Standing" "maliciousAttempts" "J" (.long s_maliciousAttempts)) (F_o0_idleDisconnections : Fld Z h o0 "com/example/uriel/uriel/Standing" "idleDisconnections" "J" (.long s_idleDisconnections)) (hv : f4_0 t_confidence t_rung s_confidence s_rung s_connections s_disconnections s_maliciousAttempts s_idleDisconnections = some rr) :
    own_WP p e below (own_Q s P rmR4.cells rmR4.slots) T (mkF m 0 #[.val (.ref o0), .val (.ref o1)] []) := by
  obtain ⟨hx, hZ, hby, hml, hown, hnm, hret, hlk⟩ := id C
  replace hown : s.vm.findClass "com/example/uriel/uriel/Standing" = some m.cls := hown
  unfold f4_0 at hv
  show own_WP p e below _ T (mkF m 0 #[.val (.ref o0), .val (.ref o1)] [])
  refine own_go (fun _ => XS.aloadN X.here hx rfl (hb hby d4_0) rfl rfl) ?_
  show own_WP p e below _ T (mkF m 1 #[.val (.ref o0), .val (.ref o1)] [(.ref o0)])
  obtain ⟨T1, X1, e1, st1⟩ := getF X hx hZ hown (host := "") (Or.inl (hw _ (List.mem_of_getElem? (i := 14) rfl))) Via.refl e0 F_o0_confidence (g := (mkF m 1 #[.val (.ref o0), .val (.ref o1)] [(.ref o0)])) rfl rfl (hb hby d4_1)
  refine own_go st1 ?_
  show own_WP p e below _ T1 (mkF m 4 #[.val (.ref o0), .val (.ref o1)] [(.long s_confidence)])
  refine own_go (fun _ => XS.aloadN X1.here hx rfl (hb hby d4_4) rfl rfl) ?_
  show own_WP p e below _ T1 (mkF m 5 #[.val (.ref o0), .val (.ref o1)] [(.ref o1), (.long s_confidence)])
  obtain ⟨T2, X2, e2, st2⟩ := getF X1 hx hZ hown (host := "") (Or.inl (hw _ (List.mem_of_getElem? (i := 14) rfl))) Via.refl e1 F_o1_confidence (g := (mkF m 5 #[.val (.ref o0), .val (.ref o1)] [(.ref o1), (.long s_confidence)])) rfl rfl (hb hby d4_5)
  refine own_go st2 ?_
  show own_WP p e below _ T2 (mkF m 8 #[.val (.ref o0), .val (.ref o1)] [(.long t_confidence), (.long s_confidence)])
  refine own_go (fun _ => XT.lcmp X2.here hx rfl (hb hby d4_8) rfl) ?_
  show own_WP p e below _ T2 (mkF m 9 #[.val (.ref o0), .val (.ref o1)] [(.int (XT.cmpL s_confidence t_confidence))])
  by_cases h9 : s_confidence = t_confidence
  · replace hv := (if_pos h9).symm.trans hv
    refine own_go (fun _ => XS.ifNo X2.here hx rfl (hb hby d4_9) rfl (XT.ll_ne_f h9)) ?_
    show own_WP p e below _ T2 (mkF m 12 #[.val (.ref o0), .val (.ref o1)] [])
    refine own_go (fun _ => XS.aloadN X2.here hx rfl (hb hby d4_12) rfl rfl) ?_
    show own_WP p e below _ T2 (mkF m 13 #[.val (.ref o0), .val (.ref o1)] [(.ref o0)])
    obtain ⟨T3, X3, e3, st3⟩ := getF X2 hx hZ hown (host := "") (Or.inl (hw _ (List.mem_of_getElem? (i := 16) rfl))) Via.refl e2 F_o0_rung (g := (mkF m 13 #[.val (.ref o0), .val (.ref o1)] [(.ref o0)])) rfl rfl (hb hby d4_13)
    refine own_go st3 ?_
    show own_WP p e below _ T3 (mkF m 16 #[.val (.ref o0), .val (.ref o1)] [(.int s_rung)])
    refine own_go (fun _ => XS.aloadN X3.here hx rfl (hb hby d4_16) rfl rfl) ?_
    show own_WP p e below _ T3 (mkF m 17 #[.val (.ref o0), .val (.ref o1)] [(.ref o1), (.int s_rung)])
    obtain ⟨T4, X4, e4, st4⟩ := getF X3 hx hZ hown (host := "") (Or.inl (hw _ (List.mem_of_getElem? (i := 16) rfl))) Via.refl e3 F_o1_rung (g := (mkF m 17 #[.val (.ref o0), .val (.ref o1)] [(.ref o1), (.int s_rung)])) rfl rfl (hb hby d4_17)
    refine own_go st4 ?_
    show own_WP p e below _ T4 (mkF m 20 #[.val (.ref o0), .val (.ref o1)] [(.int t_rung), (.int s_rung)])
    by_cases h20 : s_rung = t_rung
    · replace hv := (if_pos h20).symm.trans hv
      refine own_go (fun _ => XS.icmpNo X4.here hx rfl (hb hby d4_20) rfl (XT.ii_ne_f h20)) ?_
      show own_WP p e below _ T4 (mkF m 23 #[.val (.ref o0), .val (.ref o1)] [])
      refine own_go (fun _ => XS.aloadN X4.here hx rfl (hb hby d4_23) rfl rfl) ?_
      show own_WP p e below _ T4 (mkF m 24 #[.val (.ref o0), .val (.ref o1)] [(.ref o0)])
      obtain ⟨T5, X5, e5, st5⟩ := getF X4 hx hZ hown (host := "") (Or.inl (hw _ (List.mem_of_getElem? (i := 22) rfl))) Via.refl e4 F_o0_maliciousAttempts (g := (mkF m 24 #[.val (.ref o0), .val (.ref o1)] [(.ref o0)])) rfl rfl (hb hby d4_24)
      refine own_go st5 ?_
      show own_WP p e below _ T5 (mkF m 27 #[.val (.ref o0), .val (.ref o1)] [(.long s_maliciousAttempts)])
      refine own_go (fun _ => XS.lconst X5.here hx rfl (hb hby d4_27)) ?_
      show own_WP p e below _ T5 (mkF m 28 #[.val (.ref o0), .val (.ref o1)] [(.long (0 : Int64)), (.long s_maliciousAttempts)])
      refine own_go (fun _ => XT.lcmp X5.here hx rfl (hb hby d4_28) rfl) ?_
      show own_WP p e below _ T5 (mkF m 29 #[.val (.ref o0), .val (.ref o1)] [(.int (XT.cmpL s_maliciousAttempts (0 : Int64)))])
      by_cases h29 : s_maliciousAttempts = (0 : Int64)
      · replace hv := (if_pos h29).symm.trans hv
        refine own_go (fun _ => XS.ifNo X5.here hx rfl (hb hby d4_29) rfl (XT.ll_ne_f h29)) ?_
        show own_WP p e below _ T5 (mkF m 32 #[.val (.ref o0), .val (.ref o1)] [])
        refine own_go (fun _ => XS.aloadN X5.here hx rfl (hb hby d4_32) rfl rfl) ?_
        show own_WP p e below _ T5 (mkF m 33 #[.val (.ref o0), .val (.ref o1)] [(.ref o0)])
        obtain ⟨T6, X6, e6, st6⟩ := getF X5 hx hZ hown (host := "") (Or.inl (hw _ (List.mem_of_getElem? (i := 24) rfl))) Via.refl e5 F_o0_idleDisconnections (g := (mkF m 33 #[.val (.ref o0), .val (.ref o1)] [(.ref o0)])) rfl rfl (hb hby d4_33)
        refine own_go st6 ?_
        show own_WP p e below _ T6 (mkF m 36 #[.val (.ref o0), .val (.ref o1)] [(.long s_idleDisconnections)])
        refine own_go (fun _ => XS.lconst X6.here hx rfl (hb hby d4_36)) ?_
        show own_WP p e below _ T6 (mkF m 37 #[.val (.ref o0), .val (.ref o1)] [(.long (0 : Int64)), (.long s_idleDisconnections)])
        refine own_go (fun _ => XT.lcmp X6.here hx rfl (hb hby d4_37) rfl) ?_
        show own_WP p e below _ T6 (mkF m 38 #[.val (.ref o0), .val (.ref o1)] [(.int (XT.cmpL s_idleDisconnections (0 : Int64)))])
        by_cases h38 : s_idleDisconnections = (0 : Int64)
        · replace hv := (if_pos h38).symm.trans hv
          refine own_go (fun _ => XS.ifNo X6.here hx rfl (hb hby d4_38) rfl (XT.ll_ne_f h38)) ?_
          show own_WP p e below _ T6 (mkF m 41 #[.val (.ref o0), .val (.ref o1)] [])
          refine own_go (fun _ => XS.aloadN X6.here hx rfl (hb hby d4_41) rfl rfl) ?_
          show own_WP p e below _ T6 (mkF m 42 #[.val (.ref o0), .val (.ref o1)] [(.ref o0)])
          obtain ⟨T7, X7, e7, st7⟩ := getF X6 hx hZ hown (host := "") (Or.inl (hw _ (List.mem_of_getElem? (i := 18) rfl))) Via.refl e6 F_o0_connections (g := (mkF m 42 #[.val (.ref o0), .val (.ref o1)] [(.ref o0)])) rfl rfl (hb hby d4_42)
          refine own_go st7 ?_
          show own_WP p e below _ T7 (mkF m 45 #[.val (.ref o0), .val (.ref o1)] [(.long s_connections)])
          refine own_go (fun _ => XS.aloadN X7.here hx rfl (hb hby d4_45) rfl rfl) ?_
          show own_WP p e below _ T7 (mkF m 46 #[.val (.ref o0), .val (.ref o1)] [(.ref o0), (.long s_connections)])
          obtain ⟨T8, X8, e8, st8⟩ := getF X7 hx hZ hown (host := "") (Or.inl (hw _ (List.mem_of_getElem? (i := 20) rfl))) Via.refl e7 F_o0_disconnections (g := (mkF m 46 #[.val (.ref o0), .val (.ref o1)] [(.ref o0), (.long s_connections)])) rfl rfl (hb hby d4_46)
          refine own_go st8 ?_
          show own_WP p e below _ T8 (mkF m 49 #[.val (.ref o0), .val (.ref o1)] [(.long s_disconnections), (.long s_connections)])
          refine own_go (fun _ => XS.lsub X8.here hx rfl (hb hby d4_49) rfl) ?_
          show own_WP p e below _ T8 (mkF m 50 #[.val (.ref o0), .val (.ref o1)] [(.long (s_connections - s_disconnections))])
          refine own_go (fun _ => XS.lconst X8.here hx rfl (hb hby d4_50)) ?_
          show own_WP p e below _ T8 (mkF m 51 #[.val (.ref o0), .val (.ref o1)] [(.long (1 : Int64)), (.long (s_connections - s_disconnections))])
          refine own_go (fun _ => XT.lcmp X8.here hx rfl (hb hby d4_51) rfl) ?_
          show own_WP p e below _ T8 (mkF m 52 #[.val (.ref o0), .val (.ref o1)] [(.int (XT.cmpL (s_connections - s_disconnections) (1 : Int64)))])
          by_cases h52 : (1 : Int64) < (s_connections - s_disconnections)
          · replace hv := (if_pos h52).symm.trans hv
            refine own_go (fun _ => XS.ifYes X8.here hx rfl (pc0 := 52) (pc' := 59) rfl (hb hby d4_52) rfl (XT.ll_gt_t h52) (by decide) (by decide)) ?_
            show own_WP p e below _ T8 (mkF m 59 #[.val (.ref o0), .val (.ref o1)] [])
            refine own_go (fun _ => XS.iconst X8.here hx rfl (hb hby d4_59)) ?_
            show own_WP p e below _ T8 (mkF m 60 #[.val (.ref o0), .val (.ref o1)] [(.int (0 : Int32))])
            obtain rfl := Option.some.inj hv
            exact own_retN X8 C (by simp) (hb hby d4_60) (by rw [e8]; exact hP _ _ _ N K rfl) (by decide) (by decide)
          · replace hv := (if_neg h52).symm.trans hv
            refine own_go (fun _ => XS.ifNo X8.here hx rfl (hb hby d4_52) rfl (XT.ll_gt_f h52)) ?_
            show own_WP p e below _ T8 (mkF m 55 #[.val (.ref o0), .val (.ref o1)] [])
            refine own_go (fun _ => XS.iconst X8.here hx rfl (hb hby d4_55)) ?_
            show own_WP p e below _ T8 (mkF m 56 #[.val (.ref o0), .val (.ref o1)] [(.int (1 : Int32))])
            refine own_go (fun _ => XS.goto X8.here hx rfl (pc0 := 56) (pc' := 60) rfl (hb hby d4_56) (by decide) (by decide)) ?_
            show own_WP p e below _ T8 (mkF m 60 #[.val (.ref o0), .val (.ref o1)] [(.int (1 : Int32))])
            obtain rfl := Option.some.inj hv
            exact own_retN X8 C (by simp) (hb hby d4_60) (by rw [e8]; exact hP _ _ _ N K rfl) (by decide) (by decide)
        · replace hv := (if_neg h38).symm.trans hv
          refine own_go (fun _ => XS.ifYes X6.here hx rfl (pc0 := 38) (pc' := 59) rfl (hb hby d4_38) rfl (XT.ll_ne_t h38) (by decide) (by decide)) ?_
          show own_WP p e below _ T6 (mkF m 59 #[.val (.ref o0), .val (.ref o1)] [])
          refine own_go (fun _ => XS.iconst X6.here hx rfl (hb hby d4_59)) ?_
          show own_WP p e below _ T6 (mkF m 60 #[.val (.ref o0), .val (.ref o1)] [(.int (0 : Int32))])
          obtain rfl := Option.some.inj hv
          exact own_retN X6 C (by simp) (hb hby d4_60) (by rw [e6]; exact hP _ _ _ N K rfl) (by decide) (by decide)
      · replace hv := (if_neg h29).symm.trans hv
        refine own_go (fun _ => XS.ifYes X5.here hx rfl (pc0 := 29) (pc' := 59) rfl (hb hby d4_29) rfl (XT.ll_ne_t h29) (by decide) (by decide)) ?_
        show own_WP p e below _ T5 (mkF m 59 #[.val (.ref o0), .val (.ref o1)] [])
        refine own_go (fun _ => XS.iconst X5.here hx rfl (hb hby d4_59)) ?_
        show own_WP p e below _ T5 (mkF m 60 #[.val (.ref o0), .val (.ref o1)] [(.int (0 : Int32))])
        obtain rfl := Option.some.inj hv
        exact own_retN X5 C (by simp) (hb hby d4_60) (by rw [e5]; exact hP _ _ _ N K rfl) (by decide) (by decide)
    · replace hv := (if_neg h20).symm.trans hv
      refine own_go (fun _ => XS.icmpYes X4.here hx rfl (pc0 := 20) (pc' := 59) rfl (hb hby d4_20) rfl (XT.ii_ne_t h20) (by decide) (by decide)) ?_
      show own_WP p e below _ T4 (mkF m 59 #[.val (.ref o0), .val (.ref o1)] [])
      refine own_go (fun _ => XS.iconst X4.here hx rfl (hb hby d4_59)) ?_
      show own_WP p e below _ T4 (mkF m 60 #[.val (.ref o0), .val (.ref o1)] [(.int (0 : Int32))])
      obtain rfl := Option.some.inj hv
      exact own_retN X4 C (by simp) (hb hby d4_60) (by rw [e4]; exact hP _ _ _ N K rfl) (by decide) (by decide)
  · replace hv := (if_neg h9).symm.trans hv
    refine own_go (fun _ => XS.ifYes X2.here hx rfl (pc0 := 9) (pc' := 59) rfl (hb hby d4_9) rfl (XT.ll_ne_t h9) (by decide) (by decide)) ?_
    show own_WP p e below _ T2 (mkF m 59 #[.val (.ref o0), .val (.ref o1)] [])
    refine own_go (fun _ => XS.iconst X2.here hx rfl (hb hby d4_59)) ?_
    show own_WP p e below _ T2 (mkF m 60 #[.val (.ref o0), .val (.ref o1)] [(.int (0 : Int32))])
    obtain rfl := Option.some.inj hv
    exact own_retN X2 C (by simp) (hb hby d4_60) (by rw [e2]; exact hP _ _ _ N K rfl) (by decide) (by decide)
theorem ef4 (m : MethodId) (o0 : Nat) (o1 : Nat) : entryFrame m #[(.ref o0), (.ref o1)] 2 = (mkF m 0 #[.val (.ref o0), .val (.ref o1)] []) := by first | (simp [entryFrame, mkF, argsToLocals, Value.category]; done) | rfl
theorem pd4 : parseMethodDescriptor "(Lcom/example/uriel/uriel/Standing;)Z" = some ⟨[(.object "com/example/uriel/uriel/Standing")], some .boolean⟩ := by decide +kernel
theorem pn4 : plainFor (⟨"com/example/uriel/uriel/Standing", "asStarted", "(Lcom/example/uriel/uriel/Standing;)Z"⟩ : MethodName) = true := plainFor_of_name (by first | (simp [plainName, overriddenIn]; done) | decide +kernel)
theorem rm4 (l : Launch) (Z : State) (a0 : Array Value) (hw : ∀ d ∈ tables_1, d.before a0 Z = true) (n0 : Nat) (h0 : Heap) (Z0 : n0 ≤ h0.size) {o1 : Nat} {o0 : Nat} {t_confidence : Int64} {t_rung : Int32} {t_connections : Int64} {t_disconnections : Int64} {t_maliciousAttempts : Int64} {t_idleDisconnections : Int64} {s_confidence : Int64} {s_rung : Int32} {s_connections : Int64} {s_disconnections : Int64} {s_maliciousAttempts : Int64} {s_idleDisconnections : Int64} (o_o1_o0 : o1 < o0) (g_o1 : n0 ≤ o1) (E_o1 : Exa Z h0 o1 "com/example/uriel/uriel/Standing") (F_o1_confidence : Fld Z h0 o1 "com/example/uriel/uriel/Standing" "confidence" "J" (.long t_confidence)) (F_o1_rung : Fld Z h0 o1 "com/example/uriel/uriel/Standing" "rung" "I" (.int t_rung)) (F_o1_connections : Fld Z h0 o1 "com/example/uriel/uriel/Standing" "connections" "J" (.long t_connections)) (F_o1_disconnections : Fld Z h0 o1 "com/example/uriel/uriel/Standing" "disconnections" "J" (.long t_disconnections)) (F_o1_maliciousAttempts : Fld Z h0 o1 "com/example/uriel/uriel/Standing" "maliciousAttempts" "J" (.long t_maliciousAttempts)) (F_o1_idleDisconnections : Fld Z h0 o1 "com/example/uriel/uriel/Standing" "idleDisconnections" "J" (.long t_idleDisconnections)) (E_o0 : Exa Z h0 o0 "com/example/uriel/uriel/Standing") (F_o0_confidence : Fld Z h0 o0 "com/example/uriel/uriel/Standing" "confidence" "J" (.long s_confidence)) (F_o0_rung : Fld Z h0 o0 "com/example/uriel/uriel/Standing" "rung" "I" (.int s_rung)) (F_o0_connections : Fld Z h0 o0 "com/example/uriel/uriel/Standing" "connections" "J" (.long s_connections)) (F_o0_disconnections : Fld Z h0 o0 "com/example/uriel/uriel/Standing" "disconnections" "J" (.long s_disconnections)) (F_o0_maliciousAttempts : Fld Z h0 o0 "com/example/uriel/uriel/Standing" "maliciousAttempts" "J" (.long s_maliciousAttempts)) (F_o0_idleDisconnections : Fld Z h0 o0 "com/example/uriel/uriel/Standing" "idleDisconnections" "J" (.long s_idleDisconnections))   (rr : Int32) (hf : f4_0 t_confidence t_rung s_confidence s_rung s_connections s_disconnections s_maliciousAttempts s_idleDisconnections = some rr) :
    own_Met l Z (⟨"com/example/uriel/uriel/Standing", "asStarted", "(Lcom/example/uriel/uriel/Standing;)Z"⟩ : MethodName) prog_16_method_5_code 2 (some .boolean) [] rmR4 #[(.ref o0), (.ref o1)] h0 (fun v h L => Fr n0 L ∧ Keep h0 h [] ∧ E4 Z h0 o1 o0 t_confidence t_rung t_connections t_disconnections t_maliciousAttempts t_idleDisconnections s_confidence s_rung s_connections s_disconnections s_maliciousAttempts s_idleDisconnections rr v h) := by
  refine own_body pn4 ?_
  intro p e s m below meth c s₁ C X e0
  exact own_cast (ef4 m o0 o1) (b4_0 hw C Z0 rr (fun v h L a b c => ⟨a, b, c⟩) X e0 (Fr.nil n0) (Keep.refl h0 []) o_o1_o0 g_o1 E_o1 F_o1_confidence F_o1_rung F_o1_connections F_o1_disconnections F_o1_maliciousAttempts F_o1_idleDisconnections E_o0 F_o0_confidence F_o0_rung F_o0_connections F_o0_disconnections F_o0_maliciousAttempts F_o0_idleDisconnections hf)
def E0 (Z : State) (h0 : Heap)   (rr : Int32) (v : Option Value) (h : Heap) : Prop := v = some (.int rr)
def f0_278 (c_b0_confidence : Int64) (c_b0_rung : Int32) (c_b202_confidence : Int64) (c_b202_rung : Int32) (c_b202_connections : Int64) (c_b202_disconnections : Int64) (c_b202_maliciousAttempts : Int64) (c_b202_idleDisconnections : Int64) (t0 : Int32) : Option (Int32) := ((f4_0 c_b0_confidence c_b0_rung c_b202_confidence c_b202_rung c_b202_connections c_b202_disconnections c_b202_maliciousAttempts c_b202_idleDisconnections).bind fun rr5 => (if rr5 = t0 then (some (1 : Int32)) else (some (0 : Int32))))
set_option maxRecDepth 65536 in
set_option maxHeartbeats 40000000 in
theorem b0_278 {p : Program} {l : Launch} {e : Env} {s : State} {m : MethodId} {args : Array Value} {below : List Frame} {meth : Method} {c : Code} {Z : State} {a0 : Array Value} {h0 : Heap} {n0 : Nat} {P : Option Value → Heap → List Loc → Prop} (hw : ∀ d ∈ tables_1, d.before a0 Z = true) (C : own_Ctx p s m meth c Z x code maxLocals ret) (Z0 : n0 ≤ h0.size)   (rr : Int32) (hP : ∀ v h L, Fr n0 L → Keep h0 h [] → E0 Z h0  rr v h → P v h L)
    {T : State} {locs : List Loc} {h : Heap} {b0 : Nat} {b202 : Nat} {c_b0_confidence : Int64} {c_b0_rung : Int32} {c_b0_connections : Int64} {c_b0_disconnections : Int64} {c_b0_maliciousAttempts : Int64} {c_b0_idleDisconnections : Int64} {c_b202_confidence : Int64} {c_b202_rung : Int32} {c_b202_connections : Int64} {c_b202_disconnections : Int64} {c_b202_maliciousAttempts : Int64} {c_b202_idleDisconnections : Int64} (X : Stand p l e room_1 s m args below meth c T locs 2 12) (e0 : T.heap = h) (N : Fr n0 locs) (K : Keep h0 h []) (o_b0_b202 : b0 < b202) (g_b0 : n0 ≤ b0) (z_b0 : h0.size ≤ b0) (E_b0 : Exa Z h b0 "com/example/uriel/uriel/Standing") (F_b0_confidence : Fld Z h b0 "com/example/uriel/uriel/Standing" "confidence" "J" (.long c_b0_confidence)) (F_b0_rung : Fld Z h b0 "com/example/uriel/uriel/Standing" "rung" "I" (.int c_b0_rung)) (F_b0_connections : Fld Z h b0 "com/example/uriel/uriel/Standing" "connections" "J" (.long c_b0_connections)) (F_b0_disconnections : Fld Z h b0 "com/example/uriel/uriel/Standing" "disconnections" "J" (.long c_b0_disconnections)) (F_b0_maliciousAttempts : Fld Z h b0 "com/example/uriel/uriel/Standing" "maliciousAttempts" "J" (.long c_b0_maliciousAttempts)) (F_b0_idleDisconnections : Fld Z h b0 "com/example/uriel/uriel/Standing" "idleDisconnections" "J" (.long c_b0_idleDisconnections)) (E_b202 : Exa Z h b202 "com/example/uriel/uriel/Standing") (F_b202_confidence : Fld Z h b202 "com/example/uriel/uriel/Standing" "confidence" "J" (.long c_b202_confidence)) (F_b202_rung : Fld Z h b202 "com/example/uriel/uriel/Standing" "rung" "I" (.int c_b202_rung)) (F_b202_connections : Fld Z h b202 "com/example/uriel/uriel/Standing" "connections" "J" (.long c_b202_connections)) (F_b202_disconnections : Fld Z h b202 "com/example/uriel/uriel/Standing" "disconnections" "J" (.long c_b202_disconnections)) (F_b202_maliciousAttempts : Fld Z h b202 "com/example/uriel/uriel/Standing" "maliciousAttempts" "J" (.long c_b202_maliciousAttempts)) (F_b202_idleDisconnections : Fld Z h b202 "com/example/uriel/uriel/Standing" "idleDisconnections" "J" (.long c_b202_idleDisconnections)) (x0 : Int64) (x2 : Int64) (x4 : Int64) (x6 : Int64) (x8 : Int32) (x9 : Int32) (x11 : Int32) (x12 : Int32) (x13 : Int32) (x14 : Int32) (x15 : Int64) (x17 : Int32) (x18 : Int64) (x20 : Int64) (x22 : Int64) (x24 : Int64) (x27 : Int32) (t0 : Int32) (hv : f0_278 c_b0_confidence c_b0_rung c_b202_confidence c_b202_rung c_b202_connections c_b202_disconnections c_b202_maliciousAttempts c_b202_idleDisconnections t0 = some rr) :
    own_WP p e below (own_Q s P room_1.cells room_1.slots) T (mkF m 278 #[.val (.long x0), .second, .val (.long x2), .second, .val (.long x4), .second, .val (.long x6), .second, .val (.int x8), .val (.int x9), .val (.ref b0), .val (.int x11), .val (.int x12), .val (.int x13), .val (.int x14), .val (.long x15), .second, .val (.int x17), .val (.long x18), .second, .val (.long x20), .second, .val (.long x22), .second, .val (.long x24), .second, .val (.ref b202), .val (.int x27), .unset] [(.int t0)]) := by
  obtain ⟨hx, hZ, hby, hml, hown, hnm, hret, hlk⟩ := id C
  replace hown : s.vm.findClass "com/example/uriel/uriel/StandingAsStartedPinLaw" = some m.cls := hown
  unfold f0_278 at hv
  show own_WP p e below _ T (mkF m 278 #[.val (.long x0), .second, .val (.long x2), .second, .val (.long x4), .second, .val (.long x6), .second, .val (.int x8), .val (.int x9), .val (.ref b0), .val (.int x11), .val (.int x12), .val (.int x13), .val (.int x14), .val (.long x15), .second, .val (.int x17), .val (.long x18), .second, .val (.long x20), .second, .val (.long x22), .second, .val (.long x24), .second, .val (.ref b202), .val (.int x27), .unset] [(.int t0)])
  refine own_go (fun _ => XS.istore X.here hx rfl (hb hby at_278) rfl (l' := #[.val (.long x0), .second, .val (.long x2), .second, .val (.long x4), .second, .val (.long x6), .second, .val (.int x8), .val (.int x9), .val (.ref b0), .val (.int x11), .val (.int x12), .val (.int x13), .val (.int x14), .val (.long x15), .second, .val (.int x17), .val (.long x18), .second, .val (.long x20), .second, .val (.long x22), .second, .val (.long x24), .second, .val (.ref b202), .val (.int x27), .val (.int t0)]) rfl) ?_
  show own_WP p e below _ T (mkF m 280 #[.val (.long x0), .second, .val (.long x2), .second, .val (.long x4), .second, .val (.long x6), .second, .val (.int x8), .val (.int x9), .val (.ref b0), .val (.int x11), .val (.int x12), .val (.int x13), .val (.int x14), .val (.long x15), .second, .val (.int x17), .val (.long x18), .second, .val (.long x20), .second, .val (.long x22), .second, .val (.long x24), .second, .val (.ref b202), .val (.int x27), .val (.int t0)] [])
  refine own_go (fun _ => XS.aload X.here hx rfl (hb hby at_280) rfl rfl) ?_
  show own_WP p e below _ T (mkF m 282 #[.val (.long x0), .second, .val (.long x2), .second, .val (.long x4), .second, .val (.long x6), .second, .val (.int x8), .val (.int x9), .val (.ref b0), .val (.int x11), .val (.int x12), .val (.int x13), .val (.int x14), .val (.long x15), .second, .val (.int x17), .val (.long x18), .second, .val (.long x20), .second, .val (.long x22), .second, .val (.long x24), .second, .val (.ref b202), .val (.int x27), .val (.int t0)] [(.ref b202)])
  refine own_go (fun _ => XS.aload X.here hx rfl (hb hby at_282) rfl rfl) ?_
  show own_WP p e below _ T (mkF m 284 #[.val (.long x0), .second, .val (.long x2), .second, .val (.long x4), .second, .val (.long x6), .second, .val (.int x8), .val (.int x9), .val (.ref b0), .val (.int x11), .val (.int x12), .val (.int x13), .val (.int x14), .val (.long x15), .second, .val (.int x17), .val (.long x18), .second, .val (.long x20), .second, .val (.long x22), .second, .val (.long x24), .second, .val (.ref b202), .val (.int x27), .val (.int t0)] [(.ref b0), (.ref b202)])
  obtain ⟨rr5, hf5, hv⟩ := own_bind hv
  obtain ⟨T5, v5, L5, X5, ⟨N5, K5, Q5⟩, st5⟩ := own_callV X C (a := b202) (argsL := [(.ref b0)]) (rm4 l Z a0 hw n0 h (by have q := K.1; omega) (by omega) (by omega) E_b0 F_b0_confidence F_b0_rung F_b0_connections F_b0_disconnections F_b0_maliciousAttempts F_b0_idleDisconnections E_b202 F_b202_confidence F_b202_rung F_b202_connections F_b202_disconnections F_b202_maliciousAttempts F_b202_idleDisconnections rr5 hf5) (hw _ (List.mem_of_getElem? (i := 27) rfl)) (hw _ (List.mem_of_getElem? (i := 28) rfl)) (hw _ (List.mem_of_getElem? (i := 30) rfl)) (hw _ (List.mem_of_getElem? (i := 29) rfl)) (hw _ (List.mem_of_getElem? (i := 2) rfl)) (hw _ (List.mem_of_getElem? (i := 31) rfl)) (by decide) e0 E_b202 (W := 0) (pc := 284) (Ls := #[.val (.long x0), .second, .val (.long x2), .second, .val (.long x4), .second, .val (.long x6), .second, .val (.int x8), .val (.int x9), .val (.ref b0), .val (.int x11), .val (.int x12), .val (.int x13), .val (.int x14), .val (.long x15), .second, .val (.int x17), .val (.long x18), .second, .val (.long x20), .second, .val (.long x22), .second, .val (.long x24), .second, .val (.ref b202), .val (.int x27), .val (.int t0)]) rfl (lenOf pd4 rfl) (rest := []) (stk := [(.ref b0), (.ref b202)]) rfl (Nat.le_of_ble_eq_true rfl) (hb hby at_284) (by decide) (by decide) (by decide) (by decide)
  replace N := Fr.app N N5
  replace E_b0 := E_b0.keep K5
  replace F_b0_confidence := F_b0_confidence.keep K5 nin0
  replace F_b0_rung := F_b0_rung.keep K5 nin0
  replace F_b0_connections := F_b0_connections.keep K5 nin0
  replace F_b0_disconnections := F_b0_disconnections.keep K5 nin0
  replace F_b0_maliciousAttempts := F_b0_maliciousAttempts.keep K5 nin0
  replace F_b0_idleDisconnections := F_b0_idleDisconnections.keep K5 nin0
  replace E_b202 := E_b202.keep K5
  replace F_b202_confidence := F_b202_confidence.keep K5 nin0
  replace F_b202_rung := F_b202_rung.keep K5 nin0
  replace F_b202_connections := F_b202_connections.keep K5 nin0
  replace F_b202_disconnections := F_b202_disconnections.keep K5 nin0
  replace F_b202_maliciousAttempts := F_b202_maliciousAttempts.keep K5 nin0
  replace F_b202_idleDisconnections := F_b202_idleDisconnections.keep K5 nin0
  obtain ⟨rfl⟩ := Q5
  replace K := K.trans K5 all0
  refine own_go st5 ?_
  show own_WP p e below _ T5 (mkF m 287 #[.val (.long x0), .second, .val (.long x2), .second, .val (.long x4), .second, .val (.long x6), .second, .val (.int x8), .val (.int x9), .val (.ref b0), .val (.int x11), .val (.int x12), .val (.int x13), .val (.int x14), .val (.long x15), .second, .val (.int x17), .val (.long x18), .second, .val (.long x20), .second, .val (.long x22), .second, .val (.long x24), .second, .val (.ref b202), .val (.int x27), .val (.int t0)] [(.int rr5)])
  refine own_go (fun _ => XS.iload X5.here hx rfl (hb hby at_287) rfl) ?_
  show own_WP p e below _ T5 (mkF m 289 #[.val (.long x0), .second, .val (.long x2), .second, .val (.long x4), .second, .val (.long x6), .second, .val (.int x8), .val (.int x9), .val (.ref b0), .val (.int x11), .val (.int x12), .val (.int x13), .val (.int x14), .val (.long x15), .second, .val (.int x17), .val (.long x18), .second, .val (.long x20), .second, .val (.long x22), .second, .val (.long x24), .second, .val (.ref b202), .val (.int x27), .val (.int t0)] [(.int t0), (.int rr5)])
  by_cases h289 : rr5 = t0
  · replace hv := (if_pos h289).symm.trans hv
    refine own_go (fun _ => XS.icmpNo X5.here hx rfl (hb hby at_289) rfl (XT.ii_ne_f h289)) ?_
    show own_WP p e below _ T5 (mkF m 292 #[.val (.long x0), .second, .val (.long x2), .second, .val (.long x4), .second, .val (.long x6), .second, .val (.int x8), .val (.int x9), .val (.ref b0), .val (.int x11), .val (.int x12), .val (.int x13), .val (.int x14), .val (.long x15), .second, .val (.int x17), .val (.long x18), .second, .val (.long x20), .second, .val (.long x22), .second, .val (.long x24), .second, .val (.ref b202), .val (.int x27), .val (.int t0)] [])
    refine own_go (fun _ => XS.iconst X5.here hx rfl (hb hby at_292)) ?_
    show own_WP p e below _ T5 (mkF m 293 #[.val (.long x0), .second, .val (.long x2), .second, .val (.long x4), .second, .val (.long x6), .second, .val (.int x8), .val (.int x9), .val (.ref b0), .val (.int x11), .val (.int x12), .val (.int x13), .val (.int x14), .val (.long x15), .second, .val (.int x17), .val (.long x18), .second, .val (.long x20), .second, .val (.long x22), .second, .val (.long x24), .second, .val (.ref b202), .val (.int x27), .val (.int t0)] [(.int (1 : Int32))])
    refine own_go (fun _ => XS.goto X5.here hx rfl (pc0 := 293) (pc' := 297) rfl (hb hby at_293) (by decide) (by decide)) ?_
    show own_WP p e below _ T5 (mkF m 297 #[.val (.long x0), .second, .val (.long x2), .second, .val (.long x4), .second, .val (.long x6), .second, .val (.int x8), .val (.int x9), .val (.ref b0), .val (.int x11), .val (.int x12), .val (.int x13), .val (.int x14), .val (.long x15), .second, .val (.int x17), .val (.long x18), .second, .val (.long x20), .second, .val (.long x22), .second, .val (.long x24), .second, .val (.ref b202), .val (.int x27), .val (.int t0)] [(.int (1 : Int32))])
    obtain rfl := Option.some.inj hv
    exact own_retN X5 C (by simp) (hb hby at_297) (hP _ _ _ N K rfl) (by decide) (by decide)
  · replace hv := (if_neg h289).symm.trans hv
    refine own_go (fun _ => XS.icmpYes X5.here hx rfl (pc0 := 289) (pc' := 296) rfl (hb hby at_289) rfl (XT.ii_ne_t h289) (by decide) (by decide)) ?_
    show own_WP p e below _ T5 (mkF m 296 #[.val (.long x0), .second, .val (.long x2), .second, .val (.long x4), .second, .val (.long x6), .second, .val (.int x8), .val (.int x9), .val (.ref b0), .val (.int x11), .val (.int x12), .val (.int x13), .val (.int x14), .val (.long x15), .second, .val (.int x17), .val (.long x18), .second, .val (.long x20), .second, .val (.long x22), .second, .val (.long x24), .second, .val (.ref b202), .val (.int x27), .val (.int t0)] [])
    refine own_go (fun _ => XS.iconst X5.here hx rfl (hb hby at_296)) ?_
    show own_WP p e below _ T5 (mkF m 297 #[.val (.long x0), .second, .val (.long x2), .second, .val (.long x4), .second, .val (.long x6), .second, .val (.int x8), .val (.int x9), .val (.ref b0), .val (.int x11), .val (.int x12), .val (.int x13), .val (.int x14), .val (.long x15), .second, .val (.int x17), .val (.long x18), .second, .val (.long x20), .second, .val (.long x22), .second, .val (.long x24), .second, .val (.ref b202), .val (.int x27), .val (.int t0)] [(.int (0 : Int32))])
    obtain rfl := Option.some.inj hv
    exact own_retN X5 C (by simp) (hb hby at_297) (hP _ _ _ N K rfl) (by decide) (by decide)
def f0_277 (c_b0_confidence : Int64) (c_b0_rung : Int32) (c_b202_confidence : Int64) (c_b202_rung : Int32) (c_b202_connections : Int64) (c_b202_disconnections : Int64) (c_b202_maliciousAttempts : Int64) (c_b202_idleDisconnections : Int64) : Option (Int32) := (f0_278 c_b0_confidence c_b0_rung c_b202_confidence c_b202_rung c_b202_connections c_b202_disconnections c_b202_maliciousAttempts c_b202_idleDisconnections (0 : Int32))
set_option maxRecDepth 65536 in
set_option maxHeartbeats 40000000 in
theorem b0_277 {p : Program} {l : Launch} {e : Env} {s : State} {m : MethodId} {args : Array Value} {below : List Frame} {meth : Method} {c : Code} {Z : State} {a0 : Array Value} {h0 : Heap} {n0 : Nat} {P : Option Value → Heap → List Loc → Prop} (hw : ∀ d ∈ tables_1, d.before a0 Z = true) (C : own_Ctx p s m meth c Z x code maxLocals ret) (Z0 : n0 ≤ h0.size)   (rr : Int32) (hP : ∀ v h L, Fr n0 L → Keep h0 h [] → E0 Z h0  rr v h → P v h L)
    {T : State} {locs : List Loc} {h : Heap} {b0 : Nat} {b202 : Nat} {c_b0_confidence : Int64} {c_b0_rung : Int32} {c_b0_connections : Int64} {c_b0_disconnections : Int64} {c_b0_maliciousAttempts : Int64} {c_b0_idleDisconnections : Int64} {c_b202_confidence : Int64} {c_b202_rung : Int32} {c_b202_connections : Int64} {c_b202_disconnections : Int64} {c_b202_maliciousAttempts : Int64} {c_b202_idleDisconnections : Int64} (X : Stand p l e room_1 s m args below meth c T locs 2 12) (e0 : T.heap = h) (N : Fr n0 locs) (K : Keep h0 h []) (o_b0_b202 : b0 < b202) (g_b0 : n0 ≤ b0) (z_b0 : h0.size ≤ b0) (E_b0 : Exa Z h b0 "com/example/uriel/uriel/Standing") (F_b0_confidence : Fld Z h b0 "com/example/uriel/uriel/Standing" "confidence" "J" (.long c_b0_confidence)) (F_b0_rung : Fld Z h b0 "com/example/uriel/uriel/Standing" "rung" "I" (.int c_b0_rung)) (F_b0_connections : Fld Z h b0 "com/example/uriel/uriel/Standing" "connections" "J" (.long c_b0_connections)) (F_b0_disconnections : Fld Z h b0 "com/example/uriel/uriel/Standing" "disconnections" "J" (.long c_b0_disconnections)) (F_b0_maliciousAttempts : Fld Z h b0 "com/example/uriel/uriel/Standing" "maliciousAttempts" "J" (.long c_b0_maliciousAttempts)) (F_b0_idleDisconnections : Fld Z h b0 "com/example/uriel/uriel/Standing" "idleDisconnections" "J" (.long c_b0_idleDisconnections)) (E_b202 : Exa Z h b202 "com/example/uriel/uriel/Standing") (F_b202_confidence : Fld Z h b202 "com/example/uriel/uriel/Standing" "confidence" "J" (.long c_b202_confidence)) (F_b202_rung : Fld Z h b202 "com/example/uriel/uriel/Standing" "rung" "I" (.int c_b202_rung)) (F_b202_connections : Fld Z h b202 "com/example/uriel/uriel/Standing" "connections" "J" (.long c_b202_connections)) (F_b202_disconnections : Fld Z h b202 "com/example/uriel/uriel/Standing" "disconnections" "J" (.long c_b202_disconnections)) (F_b202_maliciousAttempts : Fld Z h b202 "com/example/uriel/uriel/Standing" "maliciousAttempts" "J" (.long c_b202_maliciousAttempts)) (F_b202_idleDisconnections : Fld Z h b202 "com/example/uriel/uriel/Standing" "idleDisconnections" "J" (.long c_b202_idleDisconnections)) (x0 : Int64) (x2 : Int64) (x4 : Int64) (x6 : Int64) (x8 : Int32) (x9 : Int32) (x11 : Int32) (x12 : Int32) (x13 : Int32) (x14 : Int32) (x15 : Int64) (x17 : Int32) (x18 : Int64) (x20 : Int64) (x22 : Int64) (x24 : Int64) (x27 : Int32) (hv : f0_277 c_b0_confidence c_b0_rung c_b202_confidence c_b202_rung c_b202_connections c_b202_disconnections c_b202_maliciousAttempts c_b202_idleDisconnections = some rr) :
    own_WP p e below (own_Q s P room_1.cells room_1.slots) T (mkF m 277 #[.val (.long x0), .second, .val (.long x2), .second, .val (.long x4), .second, .val (.long x6), .second, .val (.int x8), .val (.int x9), .val (.ref b0), .val (.int x11), .val (.int x12), .val (.int x13), .val (.int x14), .val (.long x15), .second, .val (.int x17), .val (.long x18), .second, .val (.long x20), .second, .val (.long x22), .second, .val (.long x24), .second, .val (.ref b202), .val (.int x27), .unset] []) := by
  obtain ⟨hx, hZ, hby, hml, hown, hnm, hret, hlk⟩ := id C
  replace hown : s.vm.findClass "com/example/uriel/uriel/StandingAsStartedPinLaw" = some m.cls := hown
  unfold f0_277 at hv
  show own_WP p e below _ T (mkF m 277 #[.val (.long x0), .second, .val (.long x2), .second, .val (.long x4), .second, .val (.long x6), .second, .val (.int x8), .val (.int x9), .val (.ref b0), .val (.int x11), .val (.int x12), .val (.int x13), .val (.int x14), .val (.long x15), .second, .val (.int x17), .val (.long x18), .second, .val (.long x20), .second, .val (.long x22), .second, .val (.long x24), .second, .val (.ref b202), .val (.int x27), .unset] [])
  refine own_go (fun _ => XS.iconst X.here hx rfl (hb hby at_277)) ?_
  exact b0_278 hw C Z0 rr hP X e0 N K o_b0_b202 g_b0 z_b0 E_b0 F_b0_confidence F_b0_rung F_b0_connections F_b0_disconnections F_b0_maliciousAttempts F_b0_idleDisconnections E_b202 F_b202_confidence F_b202_rung F_b202_connections F_b202_disconnections F_b202_maliciousAttempts F_b202_idleDisconnections x0 x2 x4 x6 x8 x9 x11 x12 x13 x14 x15 x17 x18 x20 x22 x24 x27 (0 : Int32) hv
def f0_246 (c_b0_confidence : Int64) (c_b0_rung : Int32) (c_b202_confidence : Int64) (c_b202_rung : Int32) (c_b202_connections : Int64) (c_b202_disconnections : Int64) (c_b202_maliciousAttempts : Int64) (c_b202_idleDisconnections : Int64) (x11 : Int32) (x12 : Int32) (x13 : Int32) (x14 : Int32) (t0 : Int32) : Option (Int32) := (if x11 = (0 : Int32) then (f0_277 c_b0_confidence c_b0_rung c_b202_confidence c_b202_rung c_b202_connections c_b202_disconnections c_b202_maliciousAttempts c_b202_idleDisconnections) else (if x12 = (0 : Int32) then (f0_277 c_b0_confidence c_b0_rung c_b202_confidence c_b202_rung c_b202_connections c_b202_disconnections c_b202_maliciousAttempts c_b202_idleDisconnections) else (if x13 = (0 : Int32) then (f0_277 c_b0_confidence c_b0_rung c_b202_confidence c_b202_rung c_b202_connections c_b202_disconnections c_b202_maliciousAttempts c_b202_idleDisconnections) else (if x14 = (0 : Int32) then (f0_277 c_b0_confidence c_b0_rung c_b202_confidence c_b202_rung c_b202_connections c_b202_disconnections c_b202_maliciousAttempts c_b202_idleDisconnections) else (if t0 = (0 : Int32) then (f0_277 c_b0_confidence c_b0_rung c_b202_confidence c_b202_rung c_b202_connections c_b202_disconnections c_b202_maliciousAttempts c_b202_idleDisconnections) else (f0_278 c_b0_confidence c_b0_rung c_b202_confidence c_b202_rung c_b202_connections c_b202_disconnections c_b202_maliciousAttempts c_b202_idleDisconnections (1 : Int32)))))))
set_option maxRecDepth 65536 in
set_option maxHeartbeats 40000000 in
theorem b0_246 {p : Program} {l : Launch} {e : Env} {s : State} {m : MethodId} {args : Array Value} {below : List Frame} {meth : Method} {c : Code} {Z : State} {a0 : Array Value} {h0 : Heap} {n0 : Nat} {P : Option Value → Heap → List Loc → Prop} (hw : ∀ d ∈ tables_1, d.before a0 Z = true) (C : own_Ctx p s m meth c Z x code maxLocals ret) (Z0 : n0 ≤ h0.size)   (rr : Int32) (hP : ∀ v h L, Fr n0 L → Keep h0 h [] → E0 Z h0  rr v h → P v h L)
    {T : State} {locs : List Loc} {h : Heap} {b0 : Nat} {b202 : Nat} {c_b0_confidence : Int64} {c_b0_rung : Int32} {c_b0_connections : Int64} {c_b0_disconnections : Int64} {c_b0_maliciousAttempts : Int64} {c_b0_idleDisconnections : Int64} {c_b202_confidence : Int64} {c_b202_rung : Int32} {c_b202_connections : Int64} {c_b202_disconnections : Int64} {c_b202_maliciousAttempts : Int64} {c_b202_idleDisconnections : Int64} (X : Stand p l e room_1 s m args below meth c T locs 2 12) (e0 : T.heap = h) (N : Fr n0 locs) (K : Keep h0 h []) (o_b0_b202 : b0 < b202) (g_b0 : n0 ≤ b0) (z_b0 : h0.size ≤ b0) (E_b0 : Exa Z h b0 "com/example/uriel/uriel/Standing") (F_b0_confidence : Fld Z h b0 "com/example/uriel/uriel/Standing" "confidence" "J" (.long c_b0_confidence)) (F_b0_rung : Fld Z h b0 "com/example/uriel/uriel/Standing" "rung" "I" (.int c_b0_rung)) (F_b0_connections : Fld Z h b0 "com/example/uriel/uriel/Standing" "connections" "J" (.long c_b0_connections)) (F_b0_disconnections : Fld Z h b0 "com/example/uriel/uriel/Standing" "disconnections" "J" (.long c_b0_disconnections)) (F_b0_maliciousAttempts : Fld Z h b0 "com/example/uriel/uriel/Standing" "maliciousAttempts" "J" (.long c_b0_maliciousAttempts)) (F_b0_idleDisconnections : Fld Z h b0 "com/example/uriel/uriel/Standing" "idleDisconnections" "J" (.long c_b0_idleDisconnections)) (E_b202 : Exa Z h b202 "com/example/uriel/uriel/Standing") (F_b202_confidence : Fld Z h b202 "com/example/uriel/uriel/Standing" "confidence" "J" (.long c_b202_confidence)) (F_b202_rung : Fld Z h b202 "com/example/uriel/uriel/Standing" "rung" "I" (.int c_b202_rung)) (F_b202_connections : Fld Z h b202 "com/example/uriel/uriel/Standing" "connections" "J" (.long c_b202_connections)) (F_b202_disconnections : Fld Z h b202 "com/example/uriel/uriel/Standing" "disconnections" "J" (.long c_b202_disconnections)) (F_b202_maliciousAttempts : Fld Z h b202 "com/example/uriel/uriel/Standing" "maliciousAttempts" "J" (.long c_b202_maliciousAttempts)) (F_b202_idleDisconnections : Fld Z h b202 "com/example/uriel/uriel/Standing" "idleDisconnections" "J" (.long c_b202_idleDisconnections)) (x0 : Int64) (x2 : Int64) (x4 : Int64) (x6 : Int64) (x8 : Int32) (x9 : Int32) (x11 : Int32) (x12 : Int32) (x13 : Int32) (x14 : Int32) (x15 : Int64) (x17 : Int32) (x18 : Int64) (x20 : Int64) (x22 : Int64) (x24 : Int64) (t0 : Int32) (hv : f0_246 c_b0_confidence c_b0_rung c_b202_confidence c_b202_rung c_b202_connections c_b202_disconnections c_b202_maliciousAttempts c_b202_idleDisconnections x11 x12 x13 x14 t0 = some rr) :
    own_WP p e below (own_Q s P room_1.cells room_1.slots) T (mkF m 246 #[.val (.long x0), .second, .val (.long x2), .second, .val (.long x4), .second, .val (.long x6), .second, .val (.int x8), .val (.int x9), .val (.ref b0), .val (.int x11), .val (.int x12), .val (.int x13), .val (.int x14), .val (.long x15), .second, .val (.int x17), .val (.long x18), .second, .val (.long x20), .second, .val (.long x22), .second, .val (.long x24), .second, .val (.ref b202), .unset, .unset] [(.int t0)]) := by
  obtain ⟨hx, hZ, hby, hml, hown, hnm, hret, hlk⟩ := id C
  replace hown : s.vm.findClass "com/example/uriel/uriel/StandingAsStartedPinLaw" = some m.cls := hown
  unfold f0_246 at hv
  show own_WP p e below _ T (mkF m 246 #[.val (.long x0), .second, .val (.long x2), .second, .val (.long x4), .second, .val (.long x6), .second, .val (.int x8), .val (.int x9), .val (.ref b0), .val (.int x11), .val (.int x12), .val (.int x13), .val (.int x14), .val (.long x15), .second, .val (.int x17), .val (.long x18), .second, .val (.long x20), .second, .val (.long x22), .second, .val (.long x24), .second, .val (.ref b202), .unset, .unset] [(.int t0)])
  refine own_go (fun _ => XS.istore X.here hx rfl (hb hby at_246) rfl (l' := #[.val (.long x0), .second, .val (.long x2), .second, .val (.long x4), .second, .val (.long x6), .second, .val (.int x8), .val (.int x9), .val (.ref b0), .val (.int x11), .val (.int x12), .val (.int x13), .val (.int x14), .val (.long x15), .second, .val (.int x17), .val (.long x18), .second, .val (.long x20), .second, .val (.long x22), .second, .val (.long x24), .second, .val (.ref b202), .val (.int t0), .unset]) rfl) ?_
  show own_WP p e below _ T (mkF m 248 #[.val (.long x0), .second, .val (.long x2), .second, .val (.long x4), .second, .val (.long x6), .second, .val (.int x8), .val (.int x9), .val (.ref b0), .val (.int x11), .val (.int x12), .val (.int x13), .val (.int x14), .val (.long x15), .second, .val (.int x17), .val (.long x18), .second, .val (.long x20), .second, .val (.long x22), .second, .val (.long x24), .second, .val (.ref b202), .val (.int t0), .unset] [])
  refine own_go (fun _ => XS.iload X.here hx rfl (hb hby at_248) rfl) ?_
  show own_WP p e below _ T (mkF m 250 #[.val (.long x0), .second, .val (.long x2), .second, .val (.long x4), .second, .val (.long x6), .second, .val (.int x8), .val (.int x9), .val (.ref b0), .val (.int x11), .val (.int x12), .val (.int x13), .val (.int x14), .val (.long x15), .second, .val (.int x17), .val (.long x18), .second, .val (.long x20), .second, .val (.long x22), .second, .val (.long x24), .second, .val (.ref b202), .val (.int t0), .unset] [(.int x11)])
  by_cases h250 : x11 = (0 : Int32)
  · replace hv := (if_pos h250).symm.trans hv
    refine own_go (fun _ => XS.ifYes X.here hx rfl (pc0 := 250) (pc' := 277) rfl (hb hby at_250) rfl (XT.i0_eq_t h250) (by decide) (by decide)) ?_
    exact b0_277 hw C Z0 rr hP X e0 N K o_b0_b202 g_b0 z_b0 E_b0 F_b0_confidence F_b0_rung F_b0_connections F_b0_disconnections F_b0_maliciousAttempts F_b0_idleDisconnections E_b202 F_b202_confidence F_b202_rung F_b202_connections F_b202_disconnections F_b202_maliciousAttempts F_b202_idleDisconnections x0 x2 x4 x6 x8 x9 x11 x12 x13 x14 x15 x17 x18 x20 x22 x24 t0 hv
  · replace hv := (if_neg h250).symm.trans hv
    refine own_go (fun _ => XS.ifNo X.here hx rfl (hb hby at_250) rfl (XT.i0_eq_f h250)) ?_
    show own_WP p e below _ T (mkF m 253 #[.val (.long x0), .second, .val (.long x2), .second, .val (.long x4), .second, .val (.long x6), .second, .val (.int x8), .val (.int x9), .val (.ref b0), .val (.int x11), .val (.int x12), .val (.int x13), .val (.int x14), .val (.long x15), .second, .val (.int x17), .val (.long x18), .second, .val (.long x20), .second, .val (.long x22), .second, .val (.long x24), .second, .val (.ref b202), .val (.int t0), .unset] [])
    refine own_go (fun _ => XS.iload X.here hx rfl (hb hby at_253) rfl) ?_
    show own_WP p e below _ T (mkF m 255 #[.val (.long x0), .second, .val (.long x2), .second, .val (.long x4), .second, .val (.long x6), .second, .val (.int x8), .val (.int x9), .val (.ref b0), .val (.int x11), .val (.int x12), .val (.int x13), .val (.int x14), .val (.long x15), .second, .val (.int x17), .val (.long x18), .second, .val (.long x20), .second, .val (.long x22), .second, .val (.long x24), .second, .val (.ref b202), .val (.int t0), .unset] [(.int x12)])
    by_cases h255 : x12 = (0 : Int32)
    · replace hv := (if_pos h255).symm.trans hv
      refine own_go (fun _ => XS.ifYes X.here hx rfl (pc0 := 255) (pc' := 277) rfl (hb hby at_255) rfl (XT.i0_eq_t h255) (by decide) (by decide)) ?_
      exact b0_277 hw C Z0 rr hP X e0 N K o_b0_b202 g_b0 z_b0 E_b0 F_b0_confidence F_b0_rung F_b0_connections F_b0_disconnections F_b0_maliciousAttempts F_b0_idleDisconnections E_b202 F_b202_confidence F_b202_rung F_b202_connections F_b202_disconnections F_b202_maliciousAttempts F_b202_idleDisconnections x0 x2 x4 x6 x8 x9 x11 x12 x13 x14 x15 x17 x18 x20 x22 x24 t0 hv
    · replace hv := (if_neg h255).symm.trans hv
      refine own_go (fun _ => XS.ifNo X.here hx rfl (hb hby at_255) rfl (XT.i0_eq_f h255)) ?_
      show own_WP p e below _ T (mkF m 258 #[.val (.long x0), .second, .val (.long x2), .second, .val (.long x4), .second, .val (.long x6), .second, .val (.int x8), .val (.int x9), .val (.ref b0), .val (.int x11), .val (.int x12), .val (.int x13), .val (.int x14), .val (.long x15), .second, .val (.int x17), .val (.long x18), .second, .val (.long x20), .second, .val (.long x22), .second, .val (.long x24), .second, .val (.ref b202), .val (.int t0), .unset] [])
      refine own_go (fun _ => XS.iload X.here hx rfl (hb hby at_258) rfl) ?_
      show own_WP p e below _ T (mkF m 260 #[.val (.long x0), .second, .val (.long x2), .second, .val (.long x4), .second, .val (.long x6), .second, .val (.int x8), .val (.int x9), .val (.ref b0), .val (.int x11), .val (.int x12), .val (.int x13), .val (.int x14), .val (.long x15), .second, .val (.int x17), .val (.long x18), .second, .val (.long x20), .second, .val (.long x22), .second, .val (.long x24), .second, .val (.ref b202), .val (.int t0), .unset] [(.int x13)])
      by_cases h260 : x13 = (0 : Int32)
      · replace hv := (if_pos h260).symm.trans hv
        refine own_go (fun _ => XS.ifYes X.here hx rfl (pc0 := 260) (pc' := 277) rfl (hb hby at_260) rfl (XT.i0_eq_t h260) (by decide) (by decide)) ?_
        exact b0_277 hw C Z0 rr hP X e0 N K o_b0_b202 g_b0 z_b0 E_b0 F_b0_confidence F_b0_rung F_b0_connections F_b0_disconnections F_b0_maliciousAttempts F_b0_idleDisconnections E_b202 F_b202_confidence F_b202_rung F_b202_connections F_b202_disconnections F_b202_maliciousAttempts F_b202_idleDisconnections x0 x2 x4 x6 x8 x9 x11 x12 x13 x14 x15 x17 x18 x20 x22 x24 t0 hv
      · replace hv := (if_neg h260).symm.trans hv
        refine own_go (fun _ => XS.ifNo X.here hx rfl (hb hby at_260) rfl (XT.i0_eq_f h260)) ?_
        show own_WP p e below _ T (mkF m 263 #[.val (.long x0), .second, .val (.long x2), .second, .val (.long x4), .second, .val (.long x6), .second, .val (.int x8), .val (.int x9), .val (.ref b0), .val (.int x11), .val (.int x12), .val (.int x13), .val (.int x14), .val (.long x15), .second, .val (.int x17), .val (.long x18), .second, .val (.long x20), .second, .val (.long x22), .second, .val (.long x24), .second, .val (.ref b202), .val (.int t0), .unset] [])
        refine own_go (fun _ => XS.iload X.here hx rfl (hb hby at_263) rfl) ?_
        show own_WP p e below _ T (mkF m 265 #[.val (.long x0), .second, .val (.long x2), .second, .val (.long x4), .second, .val (.long x6), .second, .val (.int x8), .val (.int x9), .val (.ref b0), .val (.int x11), .val (.int x12), .val (.int x13), .val (.int x14), .val (.long x15), .second, .val (.int x17), .val (.long x18), .second, .val (.long x20), .second, .val (.long x22), .second, .val (.long x24), .second, .val (.ref b202), .val (.int t0), .unset] [(.int x14)])
        by_cases h265 : x14 = (0 : Int32)
        · replace hv := (if_pos h265).symm.trans hv
          refine own_go (fun _ => XS.ifYes X.here hx rfl (pc0 := 265) (pc' := 277) rfl (hb hby at_265) rfl (XT.i0_eq_t h265) (by decide) (by decide)) ?_
          exact b0_277 hw C Z0 rr hP X e0 N K o_b0_b202 g_b0 z_b0 E_b0 F_b0_confidence F_b0_rung F_b0_connections F_b0_disconnections F_b0_maliciousAttempts F_b0_idleDisconnections E_b202 F_b202_confidence F_b202_rung F_b202_connections F_b202_disconnections F_b202_maliciousAttempts F_b202_idleDisconnections x0 x2 x4 x6 x8 x9 x11 x12 x13 x14 x15 x17 x18 x20 x22 x24 t0 hv
        · replace hv := (if_neg h265).symm.trans hv
          refine own_go (fun _ => XS.ifNo X.here hx rfl (hb hby at_265) rfl (XT.i0_eq_f h265)) ?_
          show own_WP p e below _ T (mkF m 268 #[.val (.long x0), .second, .val (.long x2), .second, .val (.long x4), .second, .val (.long x6), .second, .val (.int x8), .val (.int x9), .val (.ref b0), .val (.int x11), .val (.int x12), .val (.int x13), .val (.int x14), .val (.long x15), .second, .val (.int x17), .val (.long x18), .second, .val (.long x20), .second, .val (.long x22), .second, .val (.long x24), .second, .val (.ref b202), .val (.int t0), .unset] [])
          refine own_go (fun _ => XS.iload X.here hx rfl (hb hby at_268) rfl) ?_
          show own_WP p e below _ T (mkF m 270 #[.val (.long x0), .second, .val (.long x2), .second, .val (.long x4), .second, .val (.long x6), .second, .val (.int x8), .val (.int x9), .val (.ref b0), .val (.int x11), .val (.int x12), .val (.int x13), .val (.int x14), .val (.long x15), .second, .val (.int x17), .val (.long x18), .second, .val (.long x20), .second, .val (.long x22), .second, .val (.long x24), .second, .val (.ref b202), .val (.int t0), .unset] [(.int t0)])
          by_cases h270 : t0 = (0 : Int32)
          · replace hv := (if_pos h270).symm.trans hv
            refine own_go (fun _ => XS.ifYes X.here hx rfl (pc0 := 270) (pc' := 277) rfl (hb hby at_270) rfl (XT.i0_eq_t h270) (by decide) (by decide)) ?_
            exact b0_277 hw C Z0 rr hP X e0 N K o_b0_b202 g_b0 z_b0 E_b0 F_b0_confidence F_b0_rung F_b0_connections F_b0_disconnections F_b0_maliciousAttempts F_b0_idleDisconnections E_b202 F_b202_confidence F_b202_rung F_b202_connections F_b202_disconnections F_b202_maliciousAttempts F_b202_idleDisconnections x0 x2 x4 x6 x8 x9 x11 x12 x13 x14 x15 x17 x18 x20 x22 x24 t0 hv
          · replace hv := (if_neg h270).symm.trans hv
            refine own_go (fun _ => XS.ifNo X.here hx rfl (hb hby at_270) rfl (XT.i0_eq_f h270)) ?_
            show own_WP p e below _ T (mkF m 273 #[.val (.long x0), .second, .val (.long x2), .second, .val (.long x4), .second, .val (.long x6), .second, .val (.int x8), .val (.int x9), .val (.ref b0), .val (.int x11), .val (.int x12), .val (.int x13), .val (.int x14), .val (.long x15), .second, .val (.int x17), .val (.long x18), .second, .val (.long x20), .second, .val (.long x22), .second, .val (.long x24), .second, .val (.ref b202), .val (.int t0), .unset] [])
            refine own_go (fun _ => XS.iconst X.here hx rfl (hb hby at_273)) ?_
            show own_WP p e below _ T (mkF m 274 #[.val (.long x0), .second, .val (.long x2), .second, .val (.long x4), .second, .val (.long x6), .second, .val (.int x8), .val (.int x9), .val (.ref b0), .val (.int x11), .val (.int x12), .val (.int x13), .val (.int x14), .val (.long x15), .second, .val (.int x17), .val (.long x18), .second, .val (.long x20), .second, .val (.long x22), .second, .val (.long x24), .second, .val (.ref b202), .val (.int t0), .unset] [(.int (1 : Int32))])
            refine own_go (fun _ => XS.goto X.here hx rfl (pc0 := 274) (pc' := 278) rfl (hb hby at_274) (by decide) (by decide)) ?_
            exact b0_278 hw C Z0 rr hP X e0 N K o_b0_b202 g_b0 z_b0 E_b0 F_b0_confidence F_b0_rung F_b0_connections F_b0_disconnections F_b0_maliciousAttempts F_b0_idleDisconnections E_b202 F_b202_confidence F_b202_rung F_b202_connections F_b202_disconnections F_b202_maliciousAttempts F_b202_idleDisconnections x0 x2 x4 x6 x8 x9 x11 x12 x13 x14 x15 x17 x18 x20 x22 x24 t0 (1 : Int32) hv
def f0_241 (c_b0_confidence : Int64) (c_b0_rung : Int32) (c_b202_confidence : Int64) (c_b202_rung : Int32) (c_b202_connections : Int64) (c_b202_disconnections : Int64) (c_b202_maliciousAttempts : Int64) (c_b202_idleDisconnections : Int64) (x11 : Int32) (x12 : Int32) (x13 : Int32) (x14 : Int32) : Option (Int32) := (f0_246 c_b0_confidence c_b0_rung c_b202_confidence c_b202_rung c_b202_connections c_b202_disconnections c_b202_maliciousAttempts c_b202_idleDisconnections x11 x12 x13 x14 (1 : Int32))
set_option maxRecDepth 65536 in
set_option maxHeartbeats 40000000 in
theorem b0_241 {p : Program} {l : Launch} {e : Env} {s : State} {m : MethodId} {args : Array Value} {below : List Frame} {meth : Method} {c : Code} {Z : State} {a0 : Array Value} {h0 : Heap} {n0 : Nat} {P : Option Value → Heap → List Loc → Prop} (hw : ∀ d ∈ tables_1, d.before a0 Z = true) (C : own_Ctx p s m meth c Z x code maxLocals ret) (Z0 : n0 ≤ h0.size)   (rr : Int32) (hP : ∀ v h L, Fr n0 L → Keep h0 h [] → E0 Z h0  rr v h → P v h L)
    {T : State} {locs : List Loc} {h : Heap} {b0 : Nat} {b202 : Nat} {c_b0_confidence : Int64} {c_b0_rung : Int32} {c_b0_connections : Int64} {c_b0_disconnections : Int64} {c_b0_maliciousAttempts : Int64} {c_b0_idleDisconnections : Int64} {c_b202_confidence : Int64} {c_b202_rung : Int32} {c_b202_connections : Int64} {c_b202_disconnections : Int64} {c_b202_maliciousAttempts : Int64} {c_b202_idleDisconnections : Int64} (X : Stand p l e room_1 s m args below meth c T locs 2 12) (e0 : T.heap = h) (N : Fr n0 locs) (K : Keep h0 h []) (o_b0_b202 : b0 < b202) (g_b0 : n0 ≤ b0) (z_b0 : h0.size ≤ b0) (E_b0 : Exa Z h b0 "com/example/uriel/uriel/Standing") (F_b0_confidence : Fld Z h b0 "com/example/uriel/uriel/Standing" "confidence" "J" (.long c_b0_confidence)) (F_b0_rung : Fld Z h b0 "com/example/uriel/uriel/Standing" "rung" "I" (.int c_b0_rung)) (F_b0_connections : Fld Z h b0 "com/example/uriel/uriel/Standing" "connections" "J" (.long c_b0_connections)) (F_b0_disconnections : Fld Z h b0 "com/example/uriel/uriel/Standing" "disconnections" "J" (.long c_b0_disconnections)) (F_b0_maliciousAttempts : Fld Z h b0 "com/example/uriel/uriel/Standing" "maliciousAttempts" "J" (.long c_b0_maliciousAttempts)) (F_b0_idleDisconnections : Fld Z h b0 "com/example/uriel/uriel/Standing" "idleDisconnections" "J" (.long c_b0_idleDisconnections)) (E_b202 : Exa Z h b202 "com/example/uriel/uriel/Standing") (F_b202_confidence : Fld Z h b202 "com/example/uriel/uriel/Standing" "confidence" "J" (.long c_b202_confidence)) (F_b202_rung : Fld Z h b202 "com/example/uriel/uriel/Standing" "rung" "I" (.int c_b202_rung)) (F_b202_connections : Fld Z h b202 "com/example/uriel/uriel/Standing" "connections" "J" (.long c_b202_connections)) (F_b202_disconnections : Fld Z h b202 "com/example/uriel/uriel/Standing" "disconnections" "J" (.long c_b202_disconnections)) (F_b202_maliciousAttempts : Fld Z h b202 "com/example/uriel/uriel/Standing" "maliciousAttempts" "J" (.long c_b202_maliciousAttempts)) (F_b202_idleDisconnections : Fld Z h b202 "com/example/uriel/uriel/Standing" "idleDisconnections" "J" (.long c_b202_idleDisconnections)) (x0 : Int64) (x2 : Int64) (x4 : Int64) (x6 : Int64) (x8 : Int32) (x9 : Int32) (x11 : Int32) (x12 : Int32) (x13 : Int32) (x14 : Int32) (x15 : Int64) (x17 : Int32) (x18 : Int64) (x20 : Int64) (x22 : Int64) (x24 : Int64) (hv : f0_241 c_b0_confidence c_b0_rung c_b202_confidence c_b202_rung c_b202_connections c_b202_disconnections c_b202_maliciousAttempts c_b202_idleDisconnections x11 x12 x13 x14 = some rr) :
    own_WP p e below (own_Q s P room_1.cells room_1.slots) T (mkF m 241 #[.val (.long x0), .second, .val (.long x2), .second, .val (.long x4), .second, .val (.long x6), .second, .val (.int x8), .val (.int x9), .val (.ref b0), .val (.int x11), .val (.int x12), .val (.int x13), .val (.int x14), .val (.long x15), .second, .val (.int x17), .val (.long x18), .second, .val (.long x20), .second, .val (.long x22), .second, .val (.long x24), .second, .val (.ref b202), .unset, .unset] []) := by
  obtain ⟨hx, hZ, hby, hml, hown, hnm, hret, hlk⟩ := id C
  replace hown : s.vm.findClass "com/example/uriel/uriel/StandingAsStartedPinLaw" = some m.cls := hown
  unfold f0_241 at hv
  show own_WP p e below _ T (mkF m 241 #[.val (.long x0), .second, .val (.long x2), .second, .val (.long x4), .second, .val (.long x6), .second, .val (.int x8), .val (.int x9), .val (.ref b0), .val (.int x11), .val (.int x12), .val (.int x13), .val (.int x14), .val (.long x15), .second, .val (.int x17), .val (.long x18), .second, .val (.long x20), .second, .val (.long x22), .second, .val (.long x24), .second, .val (.ref b202), .unset, .unset] [])
  refine own_go (fun _ => XS.iconst X.here hx rfl (hb hby at_241)) ?_
  show own_WP p e below _ T (mkF m 242 #[.val (.long x0), .second, .val (.long x2), .second, .val (.long x4), .second, .val (.long x6), .second, .val (.int x8), .val (.int x9), .val (.ref b0), .val (.int x11), .val (.int x12), .val (.int x13), .val (.int x14), .val (.long x15), .second, .val (.int x17), .val (.long x18), .second, .val (.long x20), .second, .val (.long x22), .second, .val (.long x24), .second, .val (.ref b202), .unset, .unset] [(.int (1 : Int32))])
  refine own_go (fun _ => XS.goto X.here hx rfl (pc0 := 242) (pc' := 246) rfl (hb hby at_242) (by decide) (by decide)) ?_
  exact b0_246 hw C Z0 rr hP X e0 N K o_b0_b202 g_b0 z_b0 E_b0 F_b0_confidence F_b0_rung F_b0_connections F_b0_disconnections F_b0_maliciousAttempts F_b0_idleDisconnections E_b202 F_b202_confidence F_b202_rung F_b202_connections F_b202_disconnections F_b202_maliciousAttempts F_b202_idleDisconnections x0 x2 x4 x6 x8 x9 x11 x12 x13 x14 x15 x17 x18 x20 x22 x24 (1 : Int32) hv
def f0_202 (c_b0_confidence : Int64) (c_b0_rung : Int32) (x11 : Int32) (x12 : Int32) (x13 : Int32) (x14 : Int32) (x15 : Int64) (x17 : Int32) (x18 : Int64) (x20 : Int64) (x22 : Int64) (x24 : Int64) : Option (Int32) := ((f1_0 x15 x17 x22 x24 x18 x20).bind fun rr4 => (if x24 < x22 then (if x22 = (x24 + (1 : Int64)) then (f0_241 c_b0_confidence c_b0_rung (rr4.1) (rr4.2.1) (rr4.2.2.1) (rr4.2.2.2.1) (rr4.2.2.2.2.1) (rr4.2.2.2.2.2) x11 x12 x13 x14) else (f0_246 c_b0_confidence c_b0_rung (rr4.1) (rr4.2.1) (rr4.2.2.1) (rr4.2.2.2.1) (rr4.2.2.2.2.1) (rr4.2.2.2.2.2) x11 x12 x13 x14 (0 : Int32))) else (f0_241 c_b0_confidence c_b0_rung (rr4.1) (rr4.2.1) (rr4.2.2.1) (rr4.2.2.2.1) (rr4.2.2.2.2.1) (rr4.2.2.2.2.2) x11 x12 x13 x14)))
set_option maxRecDepth 65536 in
set_option maxHeartbeats 40000000 in
theorem b0_202 {p : Program} {l : Launch} {e : Env} {s : State} {m : MethodId} {args : Array Value} {below : List Frame} {meth : Method} {c : Code} {Z : State} {a0 : Array Value} {h0 : Heap} {n0 : Nat} {P : Option Value → Heap → List Loc → Prop} (hw : ∀ d ∈ tables_1, d.before a0 Z = true) (C : own_Ctx p s m meth c Z x code maxLocals ret) (Z0 : n0 ≤ h0.size)   (rr : Int32) (hP : ∀ v h L, Fr n0 L → Keep h0 h [] → E0 Z h0  rr v h → P v h L)
    {T : State} {locs : List Loc} {h : Heap} {b0 : Nat} {c_b0_confidence : Int64} {c_b0_rung : Int32} {c_b0_connections : Int64} {c_b0_disconnections : Int64} {c_b0_maliciousAttempts : Int64} {c_b0_idleDisconnections : Int64} (X : Stand p l e room_1 s m args below meth c T locs 1 6) (e0 : T.heap = h) (N : Fr n0 locs) (K : Keep h0 h []) (g_b0 : n0 ≤ b0) (z_b0 : h0.size ≤ b0) (E_b0 : Exa Z h b0 "com/example/uriel/uriel/Standing") (F_b0_confidence : Fld Z h b0 "com/example/uriel/uriel/Standing" "confidence" "J" (.long c_b0_confidence)) (F_b0_rung : Fld Z h b0 "com/example/uriel/uriel/Standing" "rung" "I" (.int c_b0_rung)) (F_b0_connections : Fld Z h b0 "com/example/uriel/uriel/Standing" "connections" "J" (.long c_b0_connections)) (F_b0_disconnections : Fld Z h b0 "com/example/uriel/uriel/Standing" "disconnections" "J" (.long c_b0_disconnections)) (F_b0_maliciousAttempts : Fld Z h b0 "com/example/uriel/uriel/Standing" "maliciousAttempts" "J" (.long c_b0_maliciousAttempts)) (F_b0_idleDisconnections : Fld Z h b0 "com/example/uriel/uriel/Standing" "idleDisconnections" "J" (.long c_b0_idleDisconnections)) (x0 : Int64) (x2 : Int64) (x4 : Int64) (x6 : Int64) (x8 : Int32) (x9 : Int32) (x11 : Int32) (x12 : Int32) (x13 : Int32) (x14 : Int32) (x15 : Int64) (x17 : Int32) (x18 : Int64) (x20 : Int64) (x22 : Int64) (x24 : Int64) (hv : f0_202 c_b0_confidence c_b0_rung x11 x12 x13 x14 x15 x17 x18 x20 x22 x24 = some rr) :
    own_WP p e below (own_Q s P room_1.cells room_1.slots) T (mkF m 202 #[.val (.long x0), .second, .val (.long x2), .second, .val (.long x4), .second, .val (.long x6), .second, .val (.int x8), .val (.int x9), .val (.ref b0), .val (.int x11), .val (.int x12), .val (.int x13), .val (.int x14), .val (.long x15), .second, .val (.int x17), .val (.long x18), .second, .val (.long x20), .second, .val (.long x22), .second, .val (.long x24), .second, .unset, .unset, .unset] []) := by
  obtain ⟨hx, hZ, hby, hml, hown, hnm, hret, hlk⟩ := id C
  replace hown : s.vm.findClass "com/example/uriel/uriel/StandingAsStartedPinLaw" = some m.cls := hown
  unfold f0_202 at hv
  show own_WP p e below _ T (mkF m 202 #[.val (.long x0), .second, .val (.long x2), .second, .val (.long x4), .second, .val (.long x6), .second, .val (.int x8), .val (.int x9), .val (.ref b0), .val (.int x11), .val (.int x12), .val (.int x13), .val (.int x14), .val (.long x15), .second, .val (.int x17), .val (.long x18), .second, .val (.long x20), .second, .val (.long x22), .second, .val (.long x24), .second, .unset, .unset, .unset] [])
  obtain ⟨T3, h3, X3, e3, E3, A3, D3, -, st3⟩ := newO X hx hZ hown (hw _ (List.mem_of_getElem? (i := 0) rfl)) (hw _ (List.mem_of_getElem? (i := 1) rfl)) (hw _ (List.mem_of_getElem? (i := 2) rfl)) e0 (g := (mkF m 202 #[.val (.long x0), .second, .val (.long x2), .second, .val (.long x4), .second, .val (.long x6), .second, .val (.int x8), .val (.int x9), .val (.ref b0), .val (.int x11), .val (.int x12), .val (.int x13), .val (.int x14), .val (.long x15), .second, .val (.int x17), .val (.long x18), .second, .val (.long x20), .second, .val (.long x22), .second, .val (.long x24), .second, .unset, .unset, .unset] [])) rfl (hb hby at_202) (by decide) (by decide)
  obtain ⟨b202, hb_b202⟩ : ∃ z, z = h.size := ⟨_, rfl⟩
  rw [← hb_b202] at A3 D3 st3
  refine own_go st3 ?_
  have o_b0_b202 : b0 < b202 := by have q : b0 < h.size := E_b0.lt; omega
  replace E_b0 := E_b0.ext E3
  replace F_b0_confidence := F_b0_confidence.ext E3
  replace F_b0_rung := F_b0_rung.ext E3
  replace F_b0_connections := F_b0_connections.ext E3
  replace F_b0_disconnections := F_b0_disconnections.ext E3
  replace F_b0_maliciousAttempts := F_b0_maliciousAttempts.ext E3
  replace F_b0_idleDisconnections := F_b0_idleDisconnections.ext E3
  replace K := K.ext E3
  have E_b202 := A3
  have F_b202_confidence : Fld Z h3 b202 "com/example/uriel/uriel/Standing" "confidence" "J" (.long (0 : Int64)) := D3 (Or.inr (hw _ (List.mem_of_getElem? (i := 15) rfl))) (ty := .long) (by decide)
  have F_b202_rung : Fld Z h3 b202 "com/example/uriel/uriel/Standing" "rung" "I" (.int (0 : Int32)) := D3 (Or.inr (hw _ (List.mem_of_getElem? (i := 17) rfl))) (ty := .int) (by decide)
  have F_b202_connections : Fld Z h3 b202 "com/example/uriel/uriel/Standing" "connections" "J" (.long (0 : Int64)) := D3 (Or.inr (hw _ (List.mem_of_getElem? (i := 19) rfl))) (ty := .long) (by decide)
  have F_b202_disconnections : Fld Z h3 b202 "com/example/uriel/uriel/Standing" "disconnections" "J" (.long (0 : Int64)) := D3 (Or.inr (hw _ (List.mem_of_getElem? (i := 21) rfl))) (ty := .long) (by decide)
  have F_b202_maliciousAttempts : Fld Z h3 b202 "com/example/uriel/uriel/Standing" "maliciousAttempts" "J" (.long (0 : Int64)) := D3 (Or.inr (hw _ (List.mem_of_getElem? (i := 23) rfl))) (ty := .long) (by decide)
  have F_b202_idleDisconnections : Fld Z h3 b202 "com/example/uriel/uriel/Standing" "idleDisconnections" "J" (.long (0 : Int64)) := D3 (Or.inr (hw _ (List.mem_of_getElem? (i := 25) rfl))) (ty := .long) (by decide)
  show own_WP p e below _ T3 (mkF m 205 #[.val (.long x0), .second, .val (.long x2), .second, .val (.long x4), .second, .val (.long x6), .second, .val (.int x8), .val (.int x9), .val (.ref b0), .val (.int x11), .val (.int x12), .val (.int x13), .val (.int x14), .val (.long x15), .second, .val (.int x17), .val (.long x18), .second, .val (.long x20), .second, .val (.long x22), .second, .val (.long x24), .second, .unset, .unset, .unset] [(.ref b202)])
  refine own_go (fun _ => XS.dup X3.here hx rfl (hb hby at_205) rfl rfl) ?_
  show own_WP p e below _ T3 (mkF m 206 #[.val (.long x0), .second, .val (.long x2), .second, .val (.long x4), .second, .val (.long x6), .second, .val (.int x8), .val (.int x9), .val (.ref b0), .val (.int x11), .val (.int x12), .val (.int x13), .val (.int x14), .val (.long x15), .second, .val (.int x17), .val (.long x18), .second, .val (.long x20), .second, .val (.long x22), .second, .val (.long x24), .second, .unset, .unset, .unset] [(.ref b202), (.ref b202)])
  refine own_go (fun _ => XS.lload X3.here hx rfl (hb hby at_206) rfl) ?_
  show own_WP p e below _ T3 (mkF m 208 #[.val (.long x0), .second, .val (.long x2), .second, .val (.long x4), .second, .val (.long x6), .second, .val (.int x8), .val (.int x9), .val (.ref b0), .val (.int x11), .val (.int x12), .val (.int x13), .val (.int x14), .val (.long x15), .second, .val (.int x17), .val (.long x18), .second, .val (.long x20), .second, .val (.long x22), .second, .val (.long x24), .second, .unset, .unset, .unset] [(.long x15), (.ref b202), (.ref b202)])
  refine own_go (fun _ => XS.iload X3.here hx rfl (hb hby at_208) rfl) ?_
  show own_WP p e below _ T3 (mkF m 210 #[.val (.long x0), .second, .val (.long x2), .second, .val (.long x4), .second, .val (.long x6), .second, .val (.int x8), .val (.int x9), .val (.ref b0), .val (.int x11), .val (.int x12), .val (.int x13), .val (.int x14), .val (.long x15), .second, .val (.int x17), .val (.long x18), .second, .val (.long x20), .second, .val (.long x22), .second, .val (.long x24), .second, .unset, .unset, .unset] [(.int x17), (.long x15), (.ref b202), (.ref b202)])
  refine own_go (fun _ => XS.lload X3.here hx rfl (hb hby at_210) rfl) ?_
  show own_WP p e below _ T3 (mkF m 212 #[.val (.long x0), .second, .val (.long x2), .second, .val (.long x4), .second, .val (.long x6), .second, .val (.int x8), .val (.int x9), .val (.ref b0), .val (.int x11), .val (.int x12), .val (.int x13), .val (.int x14), .val (.long x15), .second, .val (.int x17), .val (.long x18), .second, .val (.long x20), .second, .val (.long x22), .second, .val (.long x24), .second, .unset, .unset, .unset] [(.long x22), (.int x17), (.long x15), (.ref b202), (.ref b202)])
  refine own_go (fun _ => XS.lload X3.here hx rfl (hb hby at_212) rfl) ?_
  show own_WP p e below _ T3 (mkF m 214 #[.val (.long x0), .second, .val (.long x2), .second, .val (.long x4), .second, .val (.long x6), .second, .val (.int x8), .val (.int x9), .val (.ref b0), .val (.int x11), .val (.int x12), .val (.int x13), .val (.int x14), .val (.long x15), .second, .val (.int x17), .val (.long x18), .second, .val (.long x20), .second, .val (.long x22), .second, .val (.long x24), .second, .unset, .unset, .unset] [(.long x24), (.long x22), (.int x17), (.long x15), (.ref b202), (.ref b202)])
  refine own_go (fun _ => XS.lload X3.here hx rfl (hb hby at_214) rfl) ?_
  show own_WP p e below _ T3 (mkF m 216 #[.val (.long x0), .second, .val (.long x2), .second, .val (.long x4), .second, .val (.long x6), .second, .val (.int x8), .val (.int x9), .val (.ref b0), .val (.int x11), .val (.int x12), .val (.int x13), .val (.int x14), .val (.long x15), .second, .val (.int x17), .val (.long x18), .second, .val (.long x20), .second, .val (.long x22), .second, .val (.long x24), .second, .unset, .unset, .unset] [(.long x18), (.long x24), (.long x22), (.int x17), (.long x15), (.ref b202), (.ref b202)])
  refine own_go (fun _ => XS.lload X3.here hx rfl (hb hby at_216) rfl) ?_
  show own_WP p e below _ T3 (mkF m 218 #[.val (.long x0), .second, .val (.long x2), .second, .val (.long x4), .second, .val (.long x6), .second, .val (.int x8), .val (.int x9), .val (.ref b0), .val (.int x11), .val (.int x12), .val (.int x13), .val (.int x14), .val (.long x15), .second, .val (.int x17), .val (.long x18), .second, .val (.long x20), .second, .val (.long x22), .second, .val (.long x24), .second, .unset, .unset, .unset] [(.long x20), (.long x18), (.long x24), (.long x22), (.int x17), (.long x15), (.ref b202), (.ref b202)])
  obtain ⟨rr4, hf4, hv⟩ := own_bind hv
  obtain ⟨T4, v4, L4, X4, ⟨N4, K4, Q4⟩, st4⟩ := own_callN X3 C (a := b202) (argsL := [(.long x15), (.int x17), (.long x22), (.long x24), (.long x18), (.long x20)]) (rm1 l Z a0 hw n0 h3 (by have q := K.1; omega) (by omega) E_b202 F_b202_confidence F_b202_rung F_b202_connections F_b202_disconnections F_b202_maliciousAttempts F_b202_idleDisconnections x15 x17 x22 x24 x18 x20 rr4 hf4) rfl (hw _ (List.mem_of_getElem? (i := 3) rfl)) (hw _ (List.mem_of_getElem? (i := 4) rfl)) (hw _ (List.mem_of_getElem? (i := 2) rfl)) (hw _ (List.mem_of_getElem? (i := 5) rfl)) (by decide) e3 (W := 1) (pc := 218) (Ls := #[.val (.long x0), .second, .val (.long x2), .second, .val (.long x4), .second, .val (.long x6), .second, .val (.int x8), .val (.int x9), .val (.ref b0), .val (.int x11), .val (.int x12), .val (.int x13), .val (.int x14), .val (.long x15), .second, .val (.int x17), .val (.long x18), .second, .val (.long x20), .second, .val (.long x22), .second, .val (.long x24), .second, .unset, .unset, .unset]) rfl (lenOf pd1 rfl) (rest := [(.ref b202)]) (stk := [(.long x20), (.long x18), (.long x24), (.long x22), (.int x17), (.long x15), (.ref b202), (.ref b202)]) rfl (Nat.le_of_ble_eq_true rfl) (hb hby at_218) (by decide) (by decide) (by decide) (by decide)
  replace N := Fr.app N N4
  replace E_b0 := E_b0.keep K4
  replace F_b0_confidence := F_b0_confidence.keep K4 (ninS (own_ne (by omega)) nin0)
  replace F_b0_rung := F_b0_rung.keep K4 (ninS (own_ne (by omega)) nin0)
  replace F_b0_connections := F_b0_connections.keep K4 (ninS (own_ne (by omega)) nin0)
  replace F_b0_disconnections := F_b0_disconnections.keep K4 (ninS (own_ne (by omega)) nin0)
  replace F_b0_maliciousAttempts := F_b0_maliciousAttempts.keep K4 (ninS (own_ne (by omega)) nin0)
  replace F_b0_idleDisconnections := F_b0_idleDisconnections.keep K4 (ninS (own_ne (by omega)) nin0)
  clear E_b202
  clear F_b202_confidence
  clear F_b202_rung
  clear F_b202_connections
  clear F_b202_disconnections
  clear F_b202_maliciousAttempts
  clear F_b202_idleDisconnections
  obtain ⟨rfl, E_b202, F_b202_confidence, F_b202_rung, F_b202_connections, F_b202_disconnections, F_b202_maliciousAttempts, F_b202_idleDisconnections⟩ := Q4
  replace K := K.trans K4 (allS (Or.inr (by omega)) all0)
  refine own_go st4 ?_
  show own_WP p e below _ T4 (mkF m 221 #[.val (.long x0), .second, .val (.long x2), .second, .val (.long x4), .second, .val (.long x6), .second, .val (.int x8), .val (.int x9), .val (.ref b0), .val (.int x11), .val (.int x12), .val (.int x13), .val (.int x14), .val (.long x15), .second, .val (.int x17), .val (.long x18), .second, .val (.long x20), .second, .val (.long x22), .second, .val (.long x24), .second, .unset, .unset, .unset] [(.ref b202)])
  refine own_go (fun _ => XS.astore X4.here hx rfl (hb hby at_221) rfl rfl (l' := #[.val (.long x0), .second, .val (.long x2), .second, .val (.long x4), .second, .val (.long x6), .second, .val (.int x8), .val (.int x9), .val (.ref b0), .val (.int x11), .val (.int x12), .val (.int x13), .val (.int x14), .val (.long x15), .second, .val (.int x17), .val (.long x18), .second, .val (.long x20), .second, .val (.long x22), .second, .val (.long x24), .second, .val (.ref b202), .unset, .unset]) rfl) ?_
  show own_WP p e below _ T4 (mkF m 223 #[.val (.long x0), .second, .val (.long x2), .second, .val (.long x4), .second, .val (.long x6), .second, .val (.int x8), .val (.int x9), .val (.ref b0), .val (.int x11), .val (.int x12), .val (.int x13), .val (.int x14), .val (.long x15), .second, .val (.int x17), .val (.long x18), .second, .val (.long x20), .second, .val (.long x22), .second, .val (.long x24), .second, .val (.ref b202), .unset, .unset] [])
  refine own_go (fun _ => XS.lload X4.here hx rfl (hb hby at_223) rfl) ?_
  show own_WP p e below _ T4 (mkF m 225 #[.val (.long x0), .second, .val (.long x2), .second, .val (.long x4), .second, .val (.long x6), .second, .val (.int x8), .val (.int x9), .val (.ref b0), .val (.int x11), .val (.int x12), .val (.int x13), .val (.int x14), .val (.long x15), .second, .val (.int x17), .val (.long x18), .second, .val (.long x20), .second, .val (.long x22), .second, .val (.long x24), .second, .val (.ref b202), .unset, .unset] [(.long x22)])
  refine own_go (fun _ => XS.lload X4.here hx rfl (hb hby at_225) rfl) ?_
  show own_WP p e below _ T4 (mkF m 227 #[.val (.long x0), .second, .val (.long x2), .second, .val (.long x4), .second, .val (.long x6), .second, .val (.int x8), .val (.int x9), .val (.ref b0), .val (.int x11), .val (.int x12), .val (.int x13), .val (.int x14), .val (.long x15), .second, .val (.int x17), .val (.long x18), .second, .val (.long x20), .second, .val (.long x22), .second, .val (.long x24), .second, .val (.ref b202), .unset, .unset] [(.long x24), (.long x22)])
  refine own_go (fun _ => XT.lcmp X4.here hx rfl (hb hby at_227) rfl) ?_
  show own_WP p e below _ T4 (mkF m 228 #[.val (.long x0), .second, .val (.long x2), .second, .val (.long x4), .second, .val (.long x6), .second, .val (.int x8), .val (.int x9), .val (.ref b0), .val (.int x11), .val (.int x12), .val (.int x13), .val (.int x14), .val (.long x15), .second, .val (.int x17), .val (.long x18), .second, .val (.long x20), .second, .val (.long x22), .second, .val (.long x24), .second, .val (.ref b202), .unset, .unset] [(.int (XT.cmpL x22 x24))])
  by_cases h228 : x24 < x22
  · replace hv := (if_pos h228).symm.trans hv
    refine own_go (fun _ => XS.ifNo X4.here hx rfl (hb hby at_228) rfl (XT.ll_le_f h228)) ?_
    show own_WP p e below _ T4 (mkF m 231 #[.val (.long x0), .second, .val (.long x2), .second, .val (.long x4), .second, .val (.long x6), .second, .val (.int x8), .val (.int x9), .val (.ref b0), .val (.int x11), .val (.int x12), .val (.int x13), .val (.int x14), .val (.long x15), .second, .val (.int x17), .val (.long x18), .second, .val (.long x20), .second, .val (.long x22), .second, .val (.long x24), .second, .val (.ref b202), .unset, .unset] [])
    refine own_go (fun _ => XS.lload X4.here hx rfl (hb hby at_231) rfl) ?_
    show own_WP p e below _ T4 (mkF m 233 #[.val (.long x0), .second, .val (.long x2), .second, .val (.long x4), .second, .val (.long x6), .second, .val (.int x8), .val (.int x9), .val (.ref b0), .val (.int x11), .val (.int x12), .val (.int x13), .val (.int x14), .val (.long x15), .second, .val (.int x17), .val (.long x18), .second, .val (.long x20), .second, .val (.long x22), .second, .val (.long x24), .second, .val (.ref b202), .unset, .unset] [(.long x22)])
    refine own_go (fun _ => XS.lload X4.here hx rfl (hb hby at_233) rfl) ?_
    show own_WP p e below _ T4 (mkF m 235 #[.val (.long x0), .second, .val (.long x2), .second, .val (.long x4), .second, .val (.long x6), .second, .val (.int x8), .val (.int x9), .val (.ref b0), .val (.int x11), .val (.int x12), .val (.int x13), .val (.int x14), .val (.long x15), .second, .val (.int x17), .val (.long x18), .second, .val (.long x20), .second, .val (.long x22), .second, .val (.long x24), .second, .val (.ref b202), .unset, .unset] [(.long x24), (.long x22)])
    refine own_go (fun _ => XS.lconst X4.here hx rfl (hb hby at_235)) ?_
    show own_WP p e below _ T4 (mkF m 236 #[.val (.long x0), .second, .val (.long x2), .second, .val (.long x4), .second, .val (.long x6), .second, .val (.int x8), .val (.int x9), .val (.ref b0), .val (.int x11), .val (.int x12), .val (.int x13), .val (.int x14), .val (.long x15), .second, .val (.int x17), .val (.long x18), .second, .val (.long x20), .second, .val (.long x22), .second, .val (.long x24), .second, .val (.ref b202), .unset, .unset] [(.long (1 : Int64)), (.long x24), (.long x22)])
    refine own_go (fun _ => XS.ladd X4.here hx rfl (hb hby at_236) rfl) ?_
    show own_WP p e below _ T4 (mkF m 237 #[.val (.long x0), .second, .val (.long x2), .second, .val (.long x4), .second, .val (.long x6), .second, .val (.int x8), .val (.int x9), .val (.ref b0), .val (.int x11), .val (.int x12), .val (.int x13), .val (.int x14), .val (.long x15), .second, .val (.int x17), .val (.long x18), .second, .val (.long x20), .second, .val (.long x22), .second, .val (.long x24), .second, .val (.ref b202), .unset, .unset] [(.long (x24 + (1 : Int64))), (.long x22)])
    refine own_go (fun _ => XT.lcmp X4.here hx rfl (hb hby at_237) rfl) ?_
    show own_WP p e below _ T4 (mkF m 238 #[.val (.long x0), .second, .val (.long x2), .second, .val (.long x4), .second, .val (.long x6), .second, .val (.int x8), .val (.int x9), .val (.ref b0), .val (.int x11), .val (.int x12), .val (.int x13), .val (.int x14), .val (.long x15), .second, .val (.int x17), .val (.long x18), .second, .val (.long x20), .second, .val (.long x22), .second, .val (.long x24), .second, .val (.ref b202), .unset, .unset] [(.int (XT.cmpL x22 (x24 + (1 : Int64))))])
    by_cases h238 : x22 = (x24 + (1 : Int64))
    · replace hv := (if_pos h238).symm.trans hv
      refine own_go (fun _ => XS.ifNo X4.here hx rfl (hb hby at_238) rfl (XT.ll_ne_f h238)) ?_
      exact b0_241 hw C Z0 rr hP X4 (rfl : T4.heap = T4.heap) N K o_b0_b202 g_b0 z_b0 E_b0 F_b0_confidence F_b0_rung F_b0_connections F_b0_disconnections F_b0_maliciousAttempts F_b0_idleDisconnections E_b202 F_b202_confidence F_b202_rung F_b202_connections F_b202_disconnections F_b202_maliciousAttempts F_b202_idleDisconnections x0 x2 x4 x6 x8 x9 x11 x12 x13 x14 x15 x17 x18 x20 x22 x24 hv
    · replace hv := (if_neg h238).symm.trans hv
      refine own_go (fun _ => XS.ifYes X4.here hx rfl (pc0 := 238) (pc' := 245) rfl (hb hby at_238) rfl (XT.ll_ne_t h238) (by decide) (by decide)) ?_
      show own_WP p e below _ T4 (mkF m 245 #[.val (.long x0), .second, .val (.long x2), .second, .val (.long x4), .second, .val (.long x6), .second, .val (.int x8), .val (.int x9), .val (.ref b0), .val (.int x11), .val (.int x12), .val (.int x13), .val (.int x14), .val (.long x15), .second, .val (.int x17), .val (.long x18), .second, .val (.long x20), .second, .val (.long x22), .second, .val (.long x24), .second, .val (.ref b202), .unset, .unset] [])
      refine own_go (fun _ => XS.iconst X4.here hx rfl (hb hby at_245)) ?_
      exact b0_246 hw C Z0 rr hP X4 (rfl : T4.heap = T4.heap) N K o_b0_b202 g_b0 z_b0 E_b0 F_b0_confidence F_b0_rung F_b0_connections F_b0_disconnections F_b0_maliciousAttempts F_b0_idleDisconnections E_b202 F_b202_confidence F_b202_rung F_b202_connections F_b202_disconnections F_b202_maliciousAttempts F_b202_idleDisconnections x0 x2 x4 x6 x8 x9 x11 x12 x13 x14 x15 x17 x18 x20 x22 x24 (0 : Int32) hv
  · replace hv := (if_neg h228).symm.trans hv
    refine own_go (fun _ => XS.ifYes X4.here hx rfl (pc0 := 228) (pc' := 241) rfl (hb hby at_228) rfl (XT.ll_le_t h228) (by decide) (by decide)) ?_
    exact b0_241 hw C Z0 rr hP X4 (rfl : T4.heap = T4.heap) N K o_b0_b202 g_b0 z_b0 E_b0 F_b0_confidence F_b0_rung F_b0_connections F_b0_disconnections F_b0_maliciousAttempts F_b0_idleDisconnections E_b202 F_b202_confidence F_b202_rung F_b202_connections F_b202_disconnections F_b202_maliciousAttempts F_b202_idleDisconnections x0 x2 x4 x6 x8 x9 x11 x12 x13 x14 x15 x17 x18 x20 x22 x24 hv
def f0_147 (c_b0_confidence : Int64) (c_b0_rung : Int32) (x4 : Int64) (x6 : Int64) (x9 : Int32) (x11 : Int32) (x12 : Int32) (x13 : Int32) (x14 : Int32) (x15 : Int64) (x17 : Int32) (x18 : Int64) (t0 : Int64) : Option (Int32) := (if (x9 &&& (16 : Int32)) = (0 : Int32) then (f0_202 c_b0_confidence c_b0_rung x11 x12 x13 x14 x15 x17 x18 t0 (x4 &&& (9223372036854775807 : Int64)) (x6 &&& (9223372036854775807 : Int64))) else (own_let ((XT.ushrL (x6 &&& (9223372036854775807 : Int64)) (1 : Int32)) + (1 : Int64)) fun y6 => (own_let (y6 + ((((XT.ushr x9 (5 : Int32)) &&& (3 : Int32)) - (1 : Int32)).toInt64)) fun y7 => (f0_202 c_b0_confidence c_b0_rung x11 x12 x13 x14 x15 x17 x18 t0 y7 y6))))
set_option maxRecDepth 65536 in
set_option maxHeartbeats 40000000 in
theorem b0_147 {p : Program} {l : Launch} {e : Env} {s : State} {m : MethodId} {args : Array Value} {below : List Frame} {meth : Method} {c : Code} {Z : State} {a0 : Array Value} {h0 : Heap} {n0 : Nat} {P : Option Value → Heap → List Loc → Prop} (hw : ∀ d ∈ tables_1, d.before a0 Z = true) (C : own_Ctx p s m meth c Z x code maxLocals ret) (Z0 : n0 ≤ h0.size)   (rr : Int32) (hP : ∀ v h L, Fr n0 L → Keep h0 h [] → E0 Z h0  rr v h → P v h L)
    {T : State} {locs : List Loc} {h : Heap} {b0 : Nat} {c_b0_confidence : Int64} {c_b0_rung : Int32} {c_b0_connections : Int64} {c_b0_disconnections : Int64} {c_b0_maliciousAttempts : Int64} {c_b0_idleDisconnections : Int64} (X : Stand p l e room_1 s m args below meth c T locs 1 6) (e0 : T.heap = h) (N : Fr n0 locs) (K : Keep h0 h []) (g_b0 : n0 ≤ b0) (z_b0 : h0.size ≤ b0) (E_b0 : Exa Z h b0 "com/example/uriel/uriel/Standing") (F_b0_confidence : Fld Z h b0 "com/example/uriel/uriel/Standing" "confidence" "J" (.long c_b0_confidence)) (F_b0_rung : Fld Z h b0 "com/example/uriel/uriel/Standing" "rung" "I" (.int c_b0_rung)) (F_b0_connections : Fld Z h b0 "com/example/uriel/uriel/Standing" "connections" "J" (.long c_b0_connections)) (F_b0_disconnections : Fld Z h b0 "com/example/uriel/uriel/Standing" "disconnections" "J" (.long c_b0_disconnections)) (F_b0_maliciousAttempts : Fld Z h b0 "com/example/uriel/uriel/Standing" "maliciousAttempts" "J" (.long c_b0_maliciousAttempts)) (F_b0_idleDisconnections : Fld Z h b0 "com/example/uriel/uriel/Standing" "idleDisconnections" "J" (.long c_b0_idleDisconnections)) (x0 : Int64) (x2 : Int64) (x4 : Int64) (x6 : Int64) (x8 : Int32) (x9 : Int32) (x11 : Int32) (x12 : Int32) (x13 : Int32) (x14 : Int32) (x15 : Int64) (x17 : Int32) (x18 : Int64) (t0 : Int64) (hv : f0_147 c_b0_confidence c_b0_rung x4 x6 x9 x11 x12 x13 x14 x15 x17 x18 t0 = some rr) :
    own_WP p e below (own_Q s P room_1.cells room_1.slots) T (mkF m 147 #[.val (.long x0), .second, .val (.long x2), .second, .val (.long x4), .second, .val (.long x6), .second, .val (.int x8), .val (.int x9), .val (.ref b0), .val (.int x11), .val (.int x12), .val (.int x13), .val (.int x14), .val (.long x15), .second, .val (.int x17), .val (.long x18), .second, .unset, .unset, .unset, .unset, .unset, .unset, .unset, .unset, .unset] [(.long t0)]) := by
  obtain ⟨hx, hZ, hby, hml, hown, hnm, hret, hlk⟩ := id C
  replace hown : s.vm.findClass "com/example/uriel/uriel/StandingAsStartedPinLaw" = some m.cls := hown
  unfold f0_147 at hv
  show own_WP p e below _ T (mkF m 147 #[.val (.long x0), .second, .val (.long x2), .second, .val (.long x4), .second, .val (.long x6), .second, .val (.int x8), .val (.int x9), .val (.ref b0), .val (.int x11), .val (.int x12), .val (.int x13), .val (.int x14), .val (.long x15), .second, .val (.int x17), .val (.long x18), .second, .unset, .unset, .unset, .unset, .unset, .unset, .unset, .unset, .unset] [(.long t0)])
  refine own_go (fun _ => XS.lstore X.here hx rfl (hb hby at_147) rfl (l' := #[.val (.long x0), .second, .val (.long x2), .second, .val (.long x4), .second, .val (.long x6), .second, .val (.int x8), .val (.int x9), .val (.ref b0), .val (.int x11), .val (.int x12), .val (.int x13), .val (.int x14), .val (.long x15), .second, .val (.int x17), .val (.long x18), .second, .val (.long t0), .second, .unset, .unset, .unset, .unset, .unset, .unset, .unset]) rfl) ?_
  show own_WP p e below _ T (mkF m 149 #[.val (.long x0), .second, .val (.long x2), .second, .val (.long x4), .second, .val (.long x6), .second, .val (.int x8), .val (.int x9), .val (.ref b0), .val (.int x11), .val (.int x12), .val (.int x13), .val (.int x14), .val (.long x15), .second, .val (.int x17), .val (.long x18), .second, .val (.long t0), .second, .unset, .unset, .unset, .unset, .unset, .unset, .unset] [])
  refine own_go (fun _ => XS.iload X.here hx rfl (hb hby at_149) rfl) ?_
  show own_WP p e below _ T (mkF m 151 #[.val (.long x0), .second, .val (.long x2), .second, .val (.long x4), .second, .val (.long x6), .second, .val (.int x8), .val (.int x9), .val (.ref b0), .val (.int x11), .val (.int x12), .val (.int x13), .val (.int x14), .val (.long x15), .second, .val (.int x17), .val (.long x18), .second, .val (.long t0), .second, .unset, .unset, .unset, .unset, .unset, .unset, .unset] [(.int x9)])
  refine own_go (fun _ => XS.bipush X.here hx rfl (hb hby at_151)) ?_
  show own_WP p e below _ T (mkF m 153 #[.val (.long x0), .second, .val (.long x2), .second, .val (.long x4), .second, .val (.long x6), .second, .val (.int x8), .val (.int x9), .val (.ref b0), .val (.int x11), .val (.int x12), .val (.int x13), .val (.int x14), .val (.long x15), .second, .val (.int x17), .val (.long x18), .second, .val (.long t0), .second, .unset, .unset, .unset, .unset, .unset, .unset, .unset] [(.int (16 : Int32)), (.int x9)])
  refine own_go (fun _ => XS.iand X.here hx rfl (hb hby at_153) rfl) ?_
  show own_WP p e below _ T (mkF m 154 #[.val (.long x0), .second, .val (.long x2), .second, .val (.long x4), .second, .val (.long x6), .second, .val (.int x8), .val (.int x9), .val (.ref b0), .val (.int x11), .val (.int x12), .val (.int x13), .val (.int x14), .val (.long x15), .second, .val (.int x17), .val (.long x18), .second, .val (.long t0), .second, .unset, .unset, .unset, .unset, .unset, .unset, .unset] [(.int (x9 &&& (16 : Int32)))])
  by_cases h154 : (x9 &&& (16 : Int32)) = (0 : Int32)
  · replace hv := (if_pos h154).symm.trans hv
    refine own_go (fun _ => XS.ifNo X.here hx rfl (hb hby at_154) rfl (XT.i0_ne_f h154)) ?_
    show own_WP p e below _ T (mkF m 157 #[.val (.long x0), .second, .val (.long x2), .second, .val (.long x4), .second, .val (.long x6), .second, .val (.int x8), .val (.int x9), .val (.ref b0), .val (.int x11), .val (.int x12), .val (.int x13), .val (.int x14), .val (.long x15), .second, .val (.int x17), .val (.long x18), .second, .val (.long t0), .second, .unset, .unset, .unset, .unset, .unset, .unset, .unset] [])
    refine own_go (fun _ => XS.lload X.here hx rfl (hb hby at_157) rfl) ?_
    show own_WP p e below _ T (mkF m 159 #[.val (.long x0), .second, .val (.long x2), .second, .val (.long x4), .second, .val (.long x6), .second, .val (.int x8), .val (.int x9), .val (.ref b0), .val (.int x11), .val (.int x12), .val (.int x13), .val (.int x14), .val (.long x15), .second, .val (.int x17), .val (.long x18), .second, .val (.long t0), .second, .unset, .unset, .unset, .unset, .unset, .unset, .unset] [(.long x4)])
    refine own_go (X.ldc2Long hx hown (mvT hZ (hw _ (List.mem_of_getElem? (i := 26) rfl))) (g := (mkF m 159 #[.val (.long x0), .second, .val (.long x2), .second, .val (.long x4), .second, .val (.long x6), .second, .val (.int x8), .val (.int x9), .val (.ref b0), .val (.int x11), .val (.int x12), .val (.int x13), .val (.int x14), .val (.long x15), .second, .val (.int x17), .val (.long x18), .second, .val (.long t0), .second, .unset, .unset, .unset, .unset, .unset, .unset, .unset] [(.long x4)])) rfl (hb hby at_159)) ?_
    show own_WP p e below _ T (mkF m 162 #[.val (.long x0), .second, .val (.long x2), .second, .val (.long x4), .second, .val (.long x6), .second, .val (.int x8), .val (.int x9), .val (.ref b0), .val (.int x11), .val (.int x12), .val (.int x13), .val (.int x14), .val (.long x15), .second, .val (.int x17), .val (.long x18), .second, .val (.long t0), .second, .unset, .unset, .unset, .unset, .unset, .unset, .unset] [(.long (9223372036854775807 : Int64)), (.long x4)])
    refine own_go (fun _ => XS.land X.here hx rfl (hb hby at_162) rfl) ?_
    show own_WP p e below _ T (mkF m 163 #[.val (.long x0), .second, .val (.long x2), .second, .val (.long x4), .second, .val (.long x6), .second, .val (.int x8), .val (.int x9), .val (.ref b0), .val (.int x11), .val (.int x12), .val (.int x13), .val (.int x14), .val (.long x15), .second, .val (.int x17), .val (.long x18), .second, .val (.long t0), .second, .unset, .unset, .unset, .unset, .unset, .unset, .unset] [(.long (x4 &&& (9223372036854775807 : Int64)))])
    refine own_go (fun _ => XS.lstore X.here hx rfl (hb hby at_163) rfl (l' := #[.val (.long x0), .second, .val (.long x2), .second, .val (.long x4), .second, .val (.long x6), .second, .val (.int x8), .val (.int x9), .val (.ref b0), .val (.int x11), .val (.int x12), .val (.int x13), .val (.int x14), .val (.long x15), .second, .val (.int x17), .val (.long x18), .second, .val (.long t0), .second, .val (.long (x4 &&& (9223372036854775807 : Int64))), .second, .unset, .unset, .unset, .unset, .unset]) rfl) ?_
    show own_WP p e below _ T (mkF m 165 #[.val (.long x0), .second, .val (.long x2), .second, .val (.long x4), .second, .val (.long x6), .second, .val (.int x8), .val (.int x9), .val (.ref b0), .val (.int x11), .val (.int x12), .val (.int x13), .val (.int x14), .val (.long x15), .second, .val (.int x17), .val (.long x18), .second, .val (.long t0), .second, .val (.long (x4 &&& (9223372036854775807 : Int64))), .second, .unset, .unset, .unset, .unset, .unset] [])
    refine own_go (fun _ => XS.lload X.here hx rfl (hb hby at_165) rfl) ?_
    show own_WP p e below _ T (mkF m 167 #[.val (.long x0), .second, .val (.long x2), .second, .val (.long x4), .second, .val (.long x6), .second, .val (.int x8), .val (.int x9), .val (.ref b0), .val (.int x11), .val (.int x12), .val (.int x13), .val (.int x14), .val (.long x15), .second, .val (.int x17), .val (.long x18), .second, .val (.long t0), .second, .val (.long (x4 &&& (9223372036854775807 : Int64))), .second, .unset, .unset, .unset, .unset, .unset] [(.long x6)])
    refine own_go (X.ldc2Long hx hown (mvT hZ (hw _ (List.mem_of_getElem? (i := 26) rfl))) (g := (mkF m 167 #[.val (.long x0), .second, .val (.long x2), .second, .val (.long x4), .second, .val (.long x6), .second, .val (.int x8), .val (.int x9), .val (.ref b0), .val (.int x11), .val (.int x12), .val (.int x13), .val (.int x14), .val (.long x15), .second, .val (.int x17), .val (.long x18), .second, .val (.long t0), .second, .val (.long (x4 &&& (9223372036854775807 : Int64))), .second, .unset, .unset, .unset, .unset, .unset] [(.long x6)])) rfl (hb hby at_167)) ?_
    show own_WP p e below _ T (mkF m 170 #[.val (.long x0), .second, .val (.long x2), .second, .val (.long x4), .second, .val (.long x6), .second, .val (.int x8), .val (.int x9), .val (.ref b0), .val (.int x11), .val (.int x12), .val (.int x13), .val (.int x14), .val (.long x15), .second, .val (.int x17), .val (.long x18), .second, .val (.long t0), .second, .val (.long (x4 &&& (9223372036854775807 : Int64))), .second, .unset, .unset, .unset, .unset, .unset] [(.long (9223372036854775807 : Int64)), (.long x6)])
    refine own_go (fun _ => XS.land X.here hx rfl (hb hby at_170) rfl) ?_
    show own_WP p e below _ T (mkF m 171 #[.val (.long x0), .second, .val (.long x2), .second, .val (.long x4), .second, .val (.long x6), .second, .val (.int x8), .val (.int x9), .val (.ref b0), .val (.int x11), .val (.int x12), .val (.int x13), .val (.int x14), .val (.long x15), .second, .val (.int x17), .val (.long x18), .second, .val (.long t0), .second, .val (.long (x4 &&& (9223372036854775807 : Int64))), .second, .unset, .unset, .unset, .unset, .unset] [(.long (x6 &&& (9223372036854775807 : Int64)))])
    refine own_go (fun _ => XS.lstore X.here hx rfl (hb hby at_171) rfl (l' := #[.val (.long x0), .second, .val (.long x2), .second, .val (.long x4), .second, .val (.long x6), .second, .val (.int x8), .val (.int x9), .val (.ref b0), .val (.int x11), .val (.int x12), .val (.int x13), .val (.int x14), .val (.long x15), .second, .val (.int x17), .val (.long x18), .second, .val (.long t0), .second, .val (.long (x4 &&& (9223372036854775807 : Int64))), .second, .val (.long (x6 &&& (9223372036854775807 : Int64))), .second, .unset, .unset, .unset]) rfl) ?_
    show own_WP p e below _ T (mkF m 173 #[.val (.long x0), .second, .val (.long x2), .second, .val (.long x4), .second, .val (.long x6), .second, .val (.int x8), .val (.int x9), .val (.ref b0), .val (.int x11), .val (.int x12), .val (.int x13), .val (.int x14), .val (.long x15), .second, .val (.int x17), .val (.long x18), .second, .val (.long t0), .second, .val (.long (x4 &&& (9223372036854775807 : Int64))), .second, .val (.long (x6 &&& (9223372036854775807 : Int64))), .second, .unset, .unset, .unset] [])
    refine own_go (fun _ => XS.goto X.here hx rfl (pc0 := 173) (pc' := 202) rfl (hb hby at_173) (by decide) (by decide)) ?_
    exact b0_202 hw C Z0 rr hP X e0 N K g_b0 z_b0 E_b0 F_b0_confidence F_b0_rung F_b0_connections F_b0_disconnections F_b0_maliciousAttempts F_b0_idleDisconnections x0 x2 x4 x6 x8 x9 x11 x12 x13 x14 x15 x17 x18 t0 (x4 &&& (9223372036854775807 : Int64)) (x6 &&& (9223372036854775807 : Int64)) hv
  · replace hv := (if_neg h154).symm.trans hv
    refine own_go (fun _ => XS.ifYes X.here hx rfl (pc0 := 154) (pc' := 176) rfl (hb hby at_154) rfl (XT.i0_ne_t h154) (by decide) (by decide)) ?_
    show own_WP p e below _ T (mkF m 176 #[.val (.long x0), .second, .val (.long x2), .second, .val (.long x4), .second, .val (.long x6), .second, .val (.int x8), .val (.int x9), .val (.ref b0), .val (.int x11), .val (.int x12), .val (.int x13), .val (.int x14), .val (.long x15), .second, .val (.int x17), .val (.long x18), .second, .val (.long t0), .second, .unset, .unset, .unset, .unset, .unset, .unset, .unset] [])
    refine own_go (fun _ => XS.lload X.here hx rfl (hb hby at_176) rfl) ?_
    show own_WP p e below _ T (mkF m 178 #[.val (.long x0), .second, .val (.long x2), .second, .val (.long x4), .second, .val (.long x6), .second, .val (.int x8), .val (.int x9), .val (.ref b0), .val (.int x11), .val (.int x12), .val (.int x13), .val (.int x14), .val (.long x15), .second, .val (.int x17), .val (.long x18), .second, .val (.long t0), .second, .unset, .unset, .unset, .unset, .unset, .unset, .unset] [(.long x6)])
    refine own_go (X.ldc2Long hx hown (mvT hZ (hw _ (List.mem_of_getElem? (i := 26) rfl))) (g := (mkF m 178 #[.val (.long x0), .second, .val (.long x2), .second, .val (.long x4), .second, .val (.long x6), .second, .val (.int x8), .val (.int x9), .val (.ref b0), .val (.int x11), .val (.int x12), .val (.int x13), .val (.int x14), .val (.long x15), .second, .val (.int x17), .val (.long x18), .second, .val (.long t0), .second, .unset, .unset, .unset, .unset, .unset, .unset, .unset] [(.long x6)])) rfl (hb hby at_178)) ?_
    show own_WP p e below _ T (mkF m 181 #[.val (.long x0), .second, .val (.long x2), .second, .val (.long x4), .second, .val (.long x6), .second, .val (.int x8), .val (.int x9), .val (.ref b0), .val (.int x11), .val (.int x12), .val (.int x13), .val (.int x14), .val (.long x15), .second, .val (.int x17), .val (.long x18), .second, .val (.long t0), .second, .unset, .unset, .unset, .unset, .unset, .unset, .unset] [(.long (9223372036854775807 : Int64)), (.long x6)])
    refine own_go (fun _ => XS.land X.here hx rfl (hb hby at_181) rfl) ?_
    show own_WP p e below _ T (mkF m 182 #[.val (.long x0), .second, .val (.long x2), .second, .val (.long x4), .second, .val (.long x6), .second, .val (.int x8), .val (.int x9), .val (.ref b0), .val (.int x11), .val (.int x12), .val (.int x13), .val (.int x14), .val (.long x15), .second, .val (.int x17), .val (.long x18), .second, .val (.long t0), .second, .unset, .unset, .unset, .unset, .unset, .unset, .unset] [(.long (x6 &&& (9223372036854775807 : Int64)))])
    refine own_go (fun _ => XS.iconst X.here hx rfl (hb hby at_182)) ?_
    show own_WP p e below _ T (mkF m 183 #[.val (.long x0), .second, .val (.long x2), .second, .val (.long x4), .second, .val (.long x6), .second, .val (.int x8), .val (.int x9), .val (.ref b0), .val (.int x11), .val (.int x12), .val (.int x13), .val (.int x14), .val (.long x15), .second, .val (.int x17), .val (.long x18), .second, .val (.long t0), .second, .unset, .unset, .unset, .unset, .unset, .unset, .unset] [(.int (1 : Int32)), (.long (x6 &&& (9223372036854775807 : Int64)))])
    refine own_go (fun _ => XT.lushr X.here hx rfl (hb hby at_183) rfl) ?_
    show own_WP p e below _ T (mkF m 184 #[.val (.long x0), .second, .val (.long x2), .second, .val (.long x4), .second, .val (.long x6), .second, .val (.int x8), .val (.int x9), .val (.ref b0), .val (.int x11), .val (.int x12), .val (.int x13), .val (.int x14), .val (.long x15), .second, .val (.int x17), .val (.long x18), .second, .val (.long t0), .second, .unset, .unset, .unset, .unset, .unset, .unset, .unset] [(.long (XT.ushrL (x6 &&& (9223372036854775807 : Int64)) (1 : Int32)))])
    refine own_go (fun _ => XS.lconst X.here hx rfl (hb hby at_184)) ?_
    show own_WP p e below _ T (mkF m 185 #[.val (.long x0), .second, .val (.long x2), .second, .val (.long x4), .second, .val (.long x6), .second, .val (.int x8), .val (.int x9), .val (.ref b0), .val (.int x11), .val (.int x12), .val (.int x13), .val (.int x14), .val (.long x15), .second, .val (.int x17), .val (.long x18), .second, .val (.long t0), .second, .unset, .unset, .unset, .unset, .unset, .unset, .unset] [(.long (1 : Int64)), (.long (XT.ushrL (x6 &&& (9223372036854775807 : Int64)) (1 : Int32)))])
    refine own_go (fun _ => XS.ladd X.here hx rfl (hb hby at_185) rfl) ?_
    show own_WP p e below _ T (mkF m 186 #[.val (.long x0), .second, .val (.long x2), .second, .val (.long x4), .second, .val (.long x6), .second, .val (.int x8), .val (.int x9), .val (.ref b0), .val (.int x11), .val (.int x12), .val (.int x13), .val (.int x14), .val (.long x15), .second, .val (.int x17), .val (.long x18), .second, .val (.long t0), .second, .unset, .unset, .unset, .unset, .unset, .unset, .unset] [(.long ((XT.ushrL (x6 &&& (9223372036854775807 : Int64)) (1 : Int32)) + (1 : Int64)))])
    generalize ((XT.ushrL (x6 &&& (9223372036854775807 : Int64)) (1 : Int32)) + (1 : Int64)) = y6 at hv ⊢
    replace hv := own_letE hv
    show own_WP p e below _ T (mkF m 186 #[.val (.long x0), .second, .val (.long x2), .second, .val (.long x4), .second, .val (.long x6), .second, .val (.int x8), .val (.int x9), .val (.ref b0), .val (.int x11), .val (.int x12), .val (.int x13), .val (.int x14), .val (.long x15), .second, .val (.int x17), .val (.long x18), .second, .val (.long t0), .second, .unset, .unset, .unset, .unset, .unset, .unset, .unset] [(.long y6)])
    refine own_go (fun _ => XS.lstore X.here hx rfl (hb hby at_186) rfl (l' := #[.val (.long x0), .second, .val (.long x2), .second, .val (.long x4), .second, .val (.long x6), .second, .val (.int x8), .val (.int x9), .val (.ref b0), .val (.int x11), .val (.int x12), .val (.int x13), .val (.int x14), .val (.long x15), .second, .val (.int x17), .val (.long x18), .second, .val (.long t0), .second, .unset, .unset, .val (.long y6), .second, .unset, .unset, .unset]) rfl) ?_
    show own_WP p e below _ T (mkF m 188 #[.val (.long x0), .second, .val (.long x2), .second, .val (.long x4), .second, .val (.long x6), .second, .val (.int x8), .val (.int x9), .val (.ref b0), .val (.int x11), .val (.int x12), .val (.int x13), .val (.int x14), .val (.long x15), .second, .val (.int x17), .val (.long x18), .second, .val (.long t0), .second, .unset, .unset, .val (.long y6), .second, .unset, .unset, .unset] [])
    refine own_go (fun _ => XS.lload X.here hx rfl (hb hby at_188) rfl) ?_
    show own_WP p e below _ T (mkF m 190 #[.val (.long x0), .second, .val (.long x2), .second, .val (.long x4), .second, .val (.long x6), .second, .val (.int x8), .val (.int x9), .val (.ref b0), .val (.int x11), .val (.int x12), .val (.int x13), .val (.int x14), .val (.long x15), .second, .val (.int x17), .val (.long x18), .second, .val (.long t0), .second, .unset, .unset, .val (.long y6), .second, .unset, .unset, .unset] [(.long y6)])
    refine own_go (fun _ => XS.iload X.here hx rfl (hb hby at_190) rfl) ?_
    show own_WP p e below _ T (mkF m 192 #[.val (.long x0), .second, .val (.long x2), .second, .val (.long x4), .second, .val (.long x6), .second, .val (.int x8), .val (.int x9), .val (.ref b0), .val (.int x11), .val (.int x12), .val (.int x13), .val (.int x14), .val (.long x15), .second, .val (.int x17), .val (.long x18), .second, .val (.long t0), .second, .unset, .unset, .val (.long y6), .second, .unset, .unset, .unset] [(.int x9), (.long y6)])
    refine own_go (fun _ => XS.iconst X.here hx rfl (hb hby at_192)) ?_
    show own_WP p e below _ T (mkF m 193 #[.val (.long x0), .second, .val (.long x2), .second, .val (.long x4), .second, .val (.long x6), .second, .val (.int x8), .val (.int x9), .val (.ref b0), .val (.int x11), .val (.int x12), .val (.int x13), .val (.int x14), .val (.long x15), .second, .val (.int x17), .val (.long x18), .second, .val (.long t0), .second, .unset, .unset, .val (.long y6), .second, .unset, .unset, .unset] [(.int (5 : Int32)), (.int x9), (.long y6)])
    refine own_go (fun _ => XT.iushr X.here hx rfl (hb hby at_193) rfl) ?_
    show own_WP p e below _ T (mkF m 194 #[.val (.long x0), .second, .val (.long x2), .second, .val (.long x4), .second, .val (.long x6), .second, .val (.int x8), .val (.int x9), .val (.ref b0), .val (.int x11), .val (.int x12), .val (.int x13), .val (.int x14), .val (.long x15), .second, .val (.int x17), .val (.long x18), .second, .val (.long t0), .second, .unset, .unset, .val (.long y6), .second, .unset, .unset, .unset] [(.int (XT.ushr x9 (5 : Int32))), (.long y6)])
    refine own_go (fun _ => XS.iconst X.here hx rfl (hb hby at_194)) ?_
    show own_WP p e below _ T (mkF m 195 #[.val (.long x0), .second, .val (.long x2), .second, .val (.long x4), .second, .val (.long x6), .second, .val (.int x8), .val (.int x9), .val (.ref b0), .val (.int x11), .val (.int x12), .val (.int x13), .val (.int x14), .val (.long x15), .second, .val (.int x17), .val (.long x18), .second, .val (.long t0), .second, .unset, .unset, .val (.long y6), .second, .unset, .unset, .unset] [(.int (3 : Int32)), (.int (XT.ushr x9 (5 : Int32))), (.long y6)])
    refine own_go (fun _ => XS.iand X.here hx rfl (hb hby at_195) rfl) ?_
    show own_WP p e below _ T (mkF m 196 #[.val (.long x0), .second, .val (.long x2), .second, .val (.long x4), .second, .val (.long x6), .second, .val (.int x8), .val (.int x9), .val (.ref b0), .val (.int x11), .val (.int x12), .val (.int x13), .val (.int x14), .val (.long x15), .second, .val (.int x17), .val (.long x18), .second, .val (.long t0), .second, .unset, .unset, .val (.long y6), .second, .unset, .unset, .unset] [(.int ((XT.ushr x9 (5 : Int32)) &&& (3 : Int32))), (.long y6)])
    refine own_go (fun _ => XS.iconst X.here hx rfl (hb hby at_196)) ?_
    show own_WP p e below _ T (mkF m 197 #[.val (.long x0), .second, .val (.long x2), .second, .val (.long x4), .second, .val (.long x6), .second, .val (.int x8), .val (.int x9), .val (.ref b0), .val (.int x11), .val (.int x12), .val (.int x13), .val (.int x14), .val (.long x15), .second, .val (.int x17), .val (.long x18), .second, .val (.long t0), .second, .unset, .unset, .val (.long y6), .second, .unset, .unset, .unset] [(.int (1 : Int32)), (.int ((XT.ushr x9 (5 : Int32)) &&& (3 : Int32))), (.long y6)])
    refine own_go (fun _ => XS.isub X.here hx rfl (hb hby at_197) rfl) ?_
    show own_WP p e below _ T (mkF m 198 #[.val (.long x0), .second, .val (.long x2), .second, .val (.long x4), .second, .val (.long x6), .second, .val (.int x8), .val (.int x9), .val (.ref b0), .val (.int x11), .val (.int x12), .val (.int x13), .val (.int x14), .val (.long x15), .second, .val (.int x17), .val (.long x18), .second, .val (.long t0), .second, .unset, .unset, .val (.long y6), .second, .unset, .unset, .unset] [(.int (((XT.ushr x9 (5 : Int32)) &&& (3 : Int32)) - (1 : Int32))), (.long y6)])
    refine own_go (fun _ => XS.i2l X.here hx rfl (hb hby at_198) rfl) ?_
    show own_WP p e below _ T (mkF m 199 #[.val (.long x0), .second, .val (.long x2), .second, .val (.long x4), .second, .val (.long x6), .second, .val (.int x8), .val (.int x9), .val (.ref b0), .val (.int x11), .val (.int x12), .val (.int x13), .val (.int x14), .val (.long x15), .second, .val (.int x17), .val (.long x18), .second, .val (.long t0), .second, .unset, .unset, .val (.long y6), .second, .unset, .unset, .unset] [(.long ((((XT.ushr x9 (5 : Int32)) &&& (3 : Int32)) - (1 : Int32)).toInt64)), (.long y6)])
    refine own_go (fun _ => XS.ladd X.here hx rfl (hb hby at_199) rfl) ?_
    show own_WP p e below _ T (mkF m 200 #[.val (.long x0), .second, .val (.long x2), .second, .val (.long x4), .second, .val (.long x6), .second, .val (.int x8), .val (.int x9), .val (.ref b0), .val (.int x11), .val (.int x12), .val (.int x13), .val (.int x14), .val (.long x15), .second, .val (.int x17), .val (.long x18), .second, .val (.long t0), .second, .unset, .unset, .val (.long y6), .second, .unset, .unset, .unset] [(.long (y6 + ((((XT.ushr x9 (5 : Int32)) &&& (3 : Int32)) - (1 : Int32)).toInt64)))])
    generalize (y6 + ((((XT.ushr x9 (5 : Int32)) &&& (3 : Int32)) - (1 : Int32)).toInt64)) = y7 at hv ⊢
    replace hv := own_letE hv
    show own_WP p e below _ T (mkF m 200 #[.val (.long x0), .second, .val (.long x2), .second, .val (.long x4), .second, .val (.long x6), .second, .val (.int x8), .val (.int x9), .val (.ref b0), .val (.int x11), .val (.int x12), .val (.int x13), .val (.int x14), .val (.long x15), .second, .val (.int x17), .val (.long x18), .second, .val (.long t0), .second, .unset, .unset, .val (.long y6), .second, .unset, .unset, .unset] [(.long y7)])
    refine own_go (fun _ => XS.lstore X.here hx rfl (hb hby at_200) rfl (l' := #[.val (.long x0), .second, .val (.long x2), .second, .val (.long x4), .second, .val (.long x6), .second, .val (.int x8), .val (.int x9), .val (.ref b0), .val (.int x11), .val (.int x12), .val (.int x13), .val (.int x14), .val (.long x15), .second, .val (.int x17), .val (.long x18), .second, .val (.long t0), .second, .val (.long y7), .second, .val (.long y6), .second, .unset, .unset, .unset]) rfl) ?_
    exact b0_202 hw C Z0 rr hP X e0 N K g_b0 z_b0 E_b0 F_b0_confidence F_b0_rung F_b0_connections F_b0_disconnections F_b0_maliciousAttempts F_b0_idleDisconnections x0 x2 x4 x6 x8 x9 x11 x12 x13 x14 x15 x17 x18 t0 y7 y6 hv
def f0_130 (c_b0_confidence : Int64) (c_b0_rung : Int32) (x4 : Int64) (x6 : Int64) (x9 : Int32) (x11 : Int32) (x12 : Int32) (x13 : Int32) (x14 : Int32) (x15 : Int64) (x17 : Int32) (t0 : Int64) : Option (Int32) := (if x14 = (0 : Int32) then (f0_147 c_b0_confidence c_b0_rung x4 x6 x9 x11 x12 x13 x14 x15 x17 t0 ((XT.ushrL x6 (2 : Int32)) ||| (1 : Int64))) else (f0_147 c_b0_confidence c_b0_rung x4 x6 x9 x11 x12 x13 x14 x15 x17 t0 (0 : Int64)))
set_option maxRecDepth 65536 in
set_option maxHeartbeats 40000000 in
theorem b0_130 {p : Program} {l : Launch} {e : Env} {s : State} {m : MethodId} {args : Array Value} {below : List Frame} {meth : Method} {c : Code} {Z : State} {a0 : Array Value} {h0 : Heap} {n0 : Nat} {P : Option Value → Heap → List Loc → Prop} (hw : ∀ d ∈ tables_1, d.before a0 Z = true) (C : own_Ctx p s m meth c Z x code maxLocals ret) (Z0 : n0 ≤ h0.size)   (rr : Int32) (hP : ∀ v h L, Fr n0 L → Keep h0 h [] → E0 Z h0  rr v h → P v h L)
    {T : State} {locs : List Loc} {h : Heap} {b0 : Nat} {c_b0_confidence : Int64} {c_b0_rung : Int32} {c_b0_connections : Int64} {c_b0_disconnections : Int64} {c_b0_maliciousAttempts : Int64} {c_b0_idleDisconnections : Int64} (X : Stand p l e room_1 s m args below meth c T locs 1 6) (e0 : T.heap = h) (N : Fr n0 locs) (K : Keep h0 h []) (g_b0 : n0 ≤ b0) (z_b0 : h0.size ≤ b0) (E_b0 : Exa Z h b0 "com/example/uriel/uriel/Standing") (F_b0_confidence : Fld Z h b0 "com/example/uriel/uriel/Standing" "confidence" "J" (.long c_b0_confidence)) (F_b0_rung : Fld Z h b0 "com/example/uriel/uriel/Standing" "rung" "I" (.int c_b0_rung)) (F_b0_connections : Fld Z h b0 "com/example/uriel/uriel/Standing" "connections" "J" (.long c_b0_connections)) (F_b0_disconnections : Fld Z h b0 "com/example/uriel/uriel/Standing" "disconnections" "J" (.long c_b0_disconnections)) (F_b0_maliciousAttempts : Fld Z h b0 "com/example/uriel/uriel/Standing" "maliciousAttempts" "J" (.long c_b0_maliciousAttempts)) (F_b0_idleDisconnections : Fld Z h b0 "com/example/uriel/uriel/Standing" "idleDisconnections" "J" (.long c_b0_idleDisconnections)) (x0 : Int64) (x2 : Int64) (x4 : Int64) (x6 : Int64) (x8 : Int32) (x9 : Int32) (x11 : Int32) (x12 : Int32) (x13 : Int32) (x14 : Int32) (x15 : Int64) (x17 : Int32) (t0 : Int64) (hv : f0_130 c_b0_confidence c_b0_rung x4 x6 x9 x11 x12 x13 x14 x15 x17 t0 = some rr) :
    own_WP p e below (own_Q s P room_1.cells room_1.slots) T (mkF m 130 #[.val (.long x0), .second, .val (.long x2), .second, .val (.long x4), .second, .val (.long x6), .second, .val (.int x8), .val (.int x9), .val (.ref b0), .val (.int x11), .val (.int x12), .val (.int x13), .val (.int x14), .val (.long x15), .second, .val (.int x17), .unset, .unset, .unset, .unset, .unset, .unset, .unset, .unset, .unset, .unset, .unset] [(.long t0)]) := by
  obtain ⟨hx, hZ, hby, hml, hown, hnm, hret, hlk⟩ := id C
  replace hown : s.vm.findClass "com/example/uriel/uriel/StandingAsStartedPinLaw" = some m.cls := hown
  unfold f0_130 at hv
  show own_WP p e below _ T (mkF m 130 #[.val (.long x0), .second, .val (.long x2), .second, .val (.long x4), .second, .val (.long x6), .second, .val (.int x8), .val (.int x9), .val (.ref b0), .val (.int x11), .val (.int x12), .val (.int x13), .val (.int x14), .val (.long x15), .second, .val (.int x17), .unset, .unset, .unset, .unset, .unset, .unset, .unset, .unset, .unset, .unset, .unset] [(.long t0)])
  refine own_go (fun _ => XS.lstore X.here hx rfl (hb hby at_130) rfl (l' := #[.val (.long x0), .second, .val (.long x2), .second, .val (.long x4), .second, .val (.long x6), .second, .val (.int x8), .val (.int x9), .val (.ref b0), .val (.int x11), .val (.int x12), .val (.int x13), .val (.int x14), .val (.long x15), .second, .val (.int x17), .val (.long t0), .second, .unset, .unset, .unset, .unset, .unset, .unset, .unset, .unset, .unset]) rfl) ?_
  show own_WP p e below _ T (mkF m 132 #[.val (.long x0), .second, .val (.long x2), .second, .val (.long x4), .second, .val (.long x6), .second, .val (.int x8), .val (.int x9), .val (.ref b0), .val (.int x11), .val (.int x12), .val (.int x13), .val (.int x14), .val (.long x15), .second, .val (.int x17), .val (.long t0), .second, .unset, .unset, .unset, .unset, .unset, .unset, .unset, .unset, .unset] [])
  refine own_go (fun _ => XS.iload X.here hx rfl (hb hby at_132) rfl) ?_
  show own_WP p e below _ T (mkF m 134 #[.val (.long x0), .second, .val (.long x2), .second, .val (.long x4), .second, .val (.long x6), .second, .val (.int x8), .val (.int x9), .val (.ref b0), .val (.int x11), .val (.int x12), .val (.int x13), .val (.int x14), .val (.long x15), .second, .val (.int x17), .val (.long t0), .second, .unset, .unset, .unset, .unset, .unset, .unset, .unset, .unset, .unset] [(.int x14)])
  by_cases h134 : x14 = (0 : Int32)
  · replace hv := (if_pos h134).symm.trans hv
    refine own_go (fun _ => XS.ifYes X.here hx rfl (pc0 := 134) (pc' := 141) rfl (hb hby at_134) rfl (XT.i0_eq_t h134) (by decide) (by decide)) ?_
    show own_WP p e below _ T (mkF m 141 #[.val (.long x0), .second, .val (.long x2), .second, .val (.long x4), .second, .val (.long x6), .second, .val (.int x8), .val (.int x9), .val (.ref b0), .val (.int x11), .val (.int x12), .val (.int x13), .val (.int x14), .val (.long x15), .second, .val (.int x17), .val (.long t0), .second, .unset, .unset, .unset, .unset, .unset, .unset, .unset, .unset, .unset] [])
    refine own_go (fun _ => XS.lload X.here hx rfl (hb hby at_141) rfl) ?_
    show own_WP p e below _ T (mkF m 143 #[.val (.long x0), .second, .val (.long x2), .second, .val (.long x4), .second, .val (.long x6), .second, .val (.int x8), .val (.int x9), .val (.ref b0), .val (.int x11), .val (.int x12), .val (.int x13), .val (.int x14), .val (.long x15), .second, .val (.int x17), .val (.long t0), .second, .unset, .unset, .unset, .unset, .unset, .unset, .unset, .unset, .unset] [(.long x6)])
    refine own_go (fun _ => XS.iconst X.here hx rfl (hb hby at_143)) ?_
    show own_WP p e below _ T (mkF m 144 #[.val (.long x0), .second, .val (.long x2), .second, .val (.long x4), .second, .val (.long x6), .second, .val (.int x8), .val (.int x9), .val (.ref b0), .val (.int x11), .val (.int x12), .val (.int x13), .val (.int x14), .val (.long x15), .second, .val (.int x17), .val (.long t0), .second, .unset, .unset, .unset, .unset, .unset, .unset, .unset, .unset, .unset] [(.int (2 : Int32)), (.long x6)])
    refine own_go (fun _ => XT.lushr X.here hx rfl (hb hby at_144) rfl) ?_
    show own_WP p e below _ T (mkF m 145 #[.val (.long x0), .second, .val (.long x2), .second, .val (.long x4), .second, .val (.long x6), .second, .val (.int x8), .val (.int x9), .val (.ref b0), .val (.int x11), .val (.int x12), .val (.int x13), .val (.int x14), .val (.long x15), .second, .val (.int x17), .val (.long t0), .second, .unset, .unset, .unset, .unset, .unset, .unset, .unset, .unset, .unset] [(.long (XT.ushrL x6 (2 : Int32)))])
    refine own_go (fun _ => XS.lconst X.here hx rfl (hb hby at_145)) ?_
    show own_WP p e below _ T (mkF m 146 #[.val (.long x0), .second, .val (.long x2), .second, .val (.long x4), .second, .val (.long x6), .second, .val (.int x8), .val (.int x9), .val (.ref b0), .val (.int x11), .val (.int x12), .val (.int x13), .val (.int x14), .val (.long x15), .second, .val (.int x17), .val (.long t0), .second, .unset, .unset, .unset, .unset, .unset, .unset, .unset, .unset, .unset] [(.long (1 : Int64)), (.long (XT.ushrL x6 (2 : Int32)))])
    refine own_go (fun _ => XS.lor X.here hx rfl (hb hby at_146) rfl) ?_
    exact b0_147 hw C Z0 rr hP X e0 N K g_b0 z_b0 E_b0 F_b0_confidence F_b0_rung F_b0_connections F_b0_disconnections F_b0_maliciousAttempts F_b0_idleDisconnections x0 x2 x4 x6 x8 x9 x11 x12 x13 x14 x15 x17 t0 ((XT.ushrL x6 (2 : Int32)) ||| (1 : Int64)) hv
  · replace hv := (if_neg h134).symm.trans hv
    refine own_go (fun _ => XS.ifNo X.here hx rfl (hb hby at_134) rfl (XT.i0_eq_f h134)) ?_
    show own_WP p e below _ T (mkF m 137 #[.val (.long x0), .second, .val (.long x2), .second, .val (.long x4), .second, .val (.long x6), .second, .val (.int x8), .val (.int x9), .val (.ref b0), .val (.int x11), .val (.int x12), .val (.int x13), .val (.int x14), .val (.long x15), .second, .val (.int x17), .val (.long t0), .second, .unset, .unset, .unset, .unset, .unset, .unset, .unset, .unset, .unset] [])
    refine own_go (fun _ => XS.lconst X.here hx rfl (hb hby at_137)) ?_
    show own_WP p e below _ T (mkF m 138 #[.val (.long x0), .second, .val (.long x2), .second, .val (.long x4), .second, .val (.long x6), .second, .val (.int x8), .val (.int x9), .val (.ref b0), .val (.int x11), .val (.int x12), .val (.int x13), .val (.int x14), .val (.long x15), .second, .val (.int x17), .val (.long t0), .second, .unset, .unset, .unset, .unset, .unset, .unset, .unset, .unset, .unset] [(.long (0 : Int64))])
    refine own_go (fun _ => XS.goto X.here hx rfl (pc0 := 138) (pc' := 147) rfl (hb hby at_138) (by decide) (by decide)) ?_
    exact b0_147 hw C Z0 rr hP X e0 N K g_b0 z_b0 E_b0 F_b0_confidence F_b0_rung F_b0_connections F_b0_disconnections F_b0_maliciousAttempts F_b0_idleDisconnections x0 x2 x4 x6 x8 x9 x11 x12 x13 x14 x15 x17 t0 (0 : Int64) hv
def f0_114 (c_b0_confidence : Int64) (c_b0_rung : Int32) (x2 : Int64) (x4 : Int64) (x6 : Int64) (x9 : Int32) (x11 : Int32) (x12 : Int32) (x13 : Int32) (x14 : Int32) (x15 : Int64) (t0 : Int32) : Option (Int32) := (if x13 = (0 : Int32) then (f0_130 c_b0_confidence c_b0_rung x4 x6 x9 x11 x12 x13 x14 x15 t0 ((XT.ushrL x2 (1 : Int32)) ||| (1 : Int64))) else (f0_130 c_b0_confidence c_b0_rung x4 x6 x9 x11 x12 x13 x14 x15 t0 (0 : Int64)))
set_option maxRecDepth 65536 in
set_option maxHeartbeats 40000000 in
theorem b0_114 {p : Program} {l : Launch} {e : Env} {s : State} {m : MethodId} {args : Array Value} {below : List Frame} {meth : Method} {c : Code} {Z : State} {a0 : Array Value} {h0 : Heap} {n0 : Nat} {P : Option Value → Heap → List Loc → Prop} (hw : ∀ d ∈ tables_1, d.before a0 Z = true) (C : own_Ctx p s m meth c Z x code maxLocals ret) (Z0 : n0 ≤ h0.size)   (rr : Int32) (hP : ∀ v h L, Fr n0 L → Keep h0 h [] → E0 Z h0  rr v h → P v h L)
    {T : State} {locs : List Loc} {h : Heap} {b0 : Nat} {c_b0_confidence : Int64} {c_b0_rung : Int32} {c_b0_connections : Int64} {c_b0_disconnections : Int64} {c_b0_maliciousAttempts : Int64} {c_b0_idleDisconnections : Int64} (X : Stand p l e room_1 s m args below meth c T locs 1 6) (e0 : T.heap = h) (N : Fr n0 locs) (K : Keep h0 h []) (g_b0 : n0 ≤ b0) (z_b0 : h0.size ≤ b0) (E_b0 : Exa Z h b0 "com/example/uriel/uriel/Standing") (F_b0_confidence : Fld Z h b0 "com/example/uriel/uriel/Standing" "confidence" "J" (.long c_b0_confidence)) (F_b0_rung : Fld Z h b0 "com/example/uriel/uriel/Standing" "rung" "I" (.int c_b0_rung)) (F_b0_connections : Fld Z h b0 "com/example/uriel/uriel/Standing" "connections" "J" (.long c_b0_connections)) (F_b0_disconnections : Fld Z h b0 "com/example/uriel/uriel/Standing" "disconnections" "J" (.long c_b0_disconnections)) (F_b0_maliciousAttempts : Fld Z h b0 "com/example/uriel/uriel/Standing" "maliciousAttempts" "J" (.long c_b0_maliciousAttempts)) (F_b0_idleDisconnections : Fld Z h b0 "com/example/uriel/uriel/Standing" "idleDisconnections" "J" (.long c_b0_idleDisconnections)) (x0 : Int64) (x2 : Int64) (x4 : Int64) (x6 : Int64) (x8 : Int32) (x9 : Int32) (x11 : Int32) (x12 : Int32) (x13 : Int32) (x14 : Int32) (x15 : Int64) (t0 : Int32) (hv : f0_114 c_b0_confidence c_b0_rung x2 x4 x6 x9 x11 x12 x13 x14 x15 t0 = some rr) :
    own_WP p e below (own_Q s P room_1.cells room_1.slots) T (mkF m 114 #[.val (.long x0), .second, .val (.long x2), .second, .val (.long x4), .second, .val (.long x6), .second, .val (.int x8), .val (.int x9), .val (.ref b0), .val (.int x11), .val (.int x12), .val (.int x13), .val (.int x14), .val (.long x15), .second, .unset, .unset, .unset, .unset, .unset, .unset, .unset, .unset, .unset, .unset, .unset, .unset] [(.int t0)]) := by
  obtain ⟨hx, hZ, hby, hml, hown, hnm, hret, hlk⟩ := id C
  replace hown : s.vm.findClass "com/example/uriel/uriel/StandingAsStartedPinLaw" = some m.cls := hown
  unfold f0_114 at hv
  show own_WP p e below _ T (mkF m 114 #[.val (.long x0), .second, .val (.long x2), .second, .val (.long x4), .second, .val (.long x6), .second, .val (.int x8), .val (.int x9), .val (.ref b0), .val (.int x11), .val (.int x12), .val (.int x13), .val (.int x14), .val (.long x15), .second, .unset, .unset, .unset, .unset, .unset, .unset, .unset, .unset, .unset, .unset, .unset, .unset] [(.int t0)])
  refine own_go (fun _ => XS.istore X.here hx rfl (hb hby at_114) rfl (l' := #[.val (.long x0), .second, .val (.long x2), .second, .val (.long x4), .second, .val (.long x6), .second, .val (.int x8), .val (.int x9), .val (.ref b0), .val (.int x11), .val (.int x12), .val (.int x13), .val (.int x14), .val (.long x15), .second, .val (.int t0), .unset, .unset, .unset, .unset, .unset, .unset, .unset, .unset, .unset, .unset, .unset]) rfl) ?_
  show own_WP p e below _ T (mkF m 116 #[.val (.long x0), .second, .val (.long x2), .second, .val (.long x4), .second, .val (.long x6), .second, .val (.int x8), .val (.int x9), .val (.ref b0), .val (.int x11), .val (.int x12), .val (.int x13), .val (.int x14), .val (.long x15), .second, .val (.int t0), .unset, .unset, .unset, .unset, .unset, .unset, .unset, .unset, .unset, .unset, .unset] [])
  refine own_go (fun _ => XS.iload X.here hx rfl (hb hby at_116) rfl) ?_
  show own_WP p e below _ T (mkF m 118 #[.val (.long x0), .second, .val (.long x2), .second, .val (.long x4), .second, .val (.long x6), .second, .val (.int x8), .val (.int x9), .val (.ref b0), .val (.int x11), .val (.int x12), .val (.int x13), .val (.int x14), .val (.long x15), .second, .val (.int t0), .unset, .unset, .unset, .unset, .unset, .unset, .unset, .unset, .unset, .unset, .unset] [(.int x13)])
  by_cases h118 : x13 = (0 : Int32)
  · replace hv := (if_pos h118).symm.trans hv
    refine own_go (fun _ => XS.ifYes X.here hx rfl (pc0 := 118) (pc' := 125) rfl (hb hby at_118) rfl (XT.i0_eq_t h118) (by decide) (by decide)) ?_
    show own_WP p e below _ T (mkF m 125 #[.val (.long x0), .second, .val (.long x2), .second, .val (.long x4), .second, .val (.long x6), .second, .val (.int x8), .val (.int x9), .val (.ref b0), .val (.int x11), .val (.int x12), .val (.int x13), .val (.int x14), .val (.long x15), .second, .val (.int t0), .unset, .unset, .unset, .unset, .unset, .unset, .unset, .unset, .unset, .unset, .unset] [])
    refine own_go (fun _ => XS.lloadN X.here hx rfl (hb hby at_125) rfl) ?_
    show own_WP p e below _ T (mkF m 126 #[.val (.long x0), .second, .val (.long x2), .second, .val (.long x4), .second, .val (.long x6), .second, .val (.int x8), .val (.int x9), .val (.ref b0), .val (.int x11), .val (.int x12), .val (.int x13), .val (.int x14), .val (.long x15), .second, .val (.int t0), .unset, .unset, .unset, .unset, .unset, .unset, .unset, .unset, .unset, .unset, .unset] [(.long x2)])
    refine own_go (fun _ => XS.iconst X.here hx rfl (hb hby at_126)) ?_
    show own_WP p e below _ T (mkF m 127 #[.val (.long x0), .second, .val (.long x2), .second, .val (.long x4), .second, .val (.long x6), .second, .val (.int x8), .val (.int x9), .val (.ref b0), .val (.int x11), .val (.int x12), .val (.int x13), .val (.int x14), .val (.long x15), .second, .val (.int t0), .unset, .unset, .unset, .unset, .unset, .unset, .unset, .unset, .unset, .unset, .unset] [(.int (1 : Int32)), (.long x2)])
    refine own_go (fun _ => XT.lushr X.here hx rfl (hb hby at_127) rfl) ?_
    show own_WP p e below _ T (mkF m 128 #[.val (.long x0), .second, .val (.long x2), .second, .val (.long x4), .second, .val (.long x6), .second, .val (.int x8), .val (.int x9), .val (.ref b0), .val (.int x11), .val (.int x12), .val (.int x13), .val (.int x14), .val (.long x15), .second, .val (.int t0), .unset, .unset, .unset, .unset, .unset, .unset, .unset, .unset, .unset, .unset, .unset] [(.long (XT.ushrL x2 (1 : Int32)))])
    refine own_go (fun _ => XS.lconst X.here hx rfl (hb hby at_128)) ?_
    show own_WP p e below _ T (mkF m 129 #[.val (.long x0), .second, .val (.long x2), .second, .val (.long x4), .second, .val (.long x6), .second, .val (.int x8), .val (.int x9), .val (.ref b0), .val (.int x11), .val (.int x12), .val (.int x13), .val (.int x14), .val (.long x15), .second, .val (.int t0), .unset, .unset, .unset, .unset, .unset, .unset, .unset, .unset, .unset, .unset, .unset] [(.long (1 : Int64)), (.long (XT.ushrL x2 (1 : Int32)))])
    refine own_go (fun _ => XS.lor X.here hx rfl (hb hby at_129) rfl) ?_
    exact b0_130 hw C Z0 rr hP X e0 N K g_b0 z_b0 E_b0 F_b0_confidence F_b0_rung F_b0_connections F_b0_disconnections F_b0_maliciousAttempts F_b0_idleDisconnections x0 x2 x4 x6 x8 x9 x11 x12 x13 x14 x15 t0 ((XT.ushrL x2 (1 : Int32)) ||| (1 : Int64)) hv
  · replace hv := (if_neg h118).symm.trans hv
    refine own_go (fun _ => XS.ifNo X.here hx rfl (hb hby at_118) rfl (XT.i0_eq_f h118)) ?_
    show own_WP p e below _ T (mkF m 121 #[.val (.long x0), .second, .val (.long x2), .second, .val (.long x4), .second, .val (.long x6), .second, .val (.int x8), .val (.int x9), .val (.ref b0), .val (.int x11), .val (.int x12), .val (.int x13), .val (.int x14), .val (.long x15), .second, .val (.int t0), .unset, .unset, .unset, .unset, .unset, .unset, .unset, .unset, .unset, .unset, .unset] [])
    refine own_go (fun _ => XS.lconst X.here hx rfl (hb hby at_121)) ?_
    show own_WP p e below _ T (mkF m 122 #[.val (.long x0), .second, .val (.long x2), .second, .val (.long x4), .second, .val (.long x6), .second, .val (.int x8), .val (.int x9), .val (.ref b0), .val (.int x11), .val (.int x12), .val (.int x13), .val (.int x14), .val (.long x15), .second, .val (.int t0), .unset, .unset, .unset, .unset, .unset, .unset, .unset, .unset, .unset, .unset, .unset] [(.long (0 : Int64))])
    refine own_go (fun _ => XS.goto X.here hx rfl (pc0 := 122) (pc' := 130) rfl (hb hby at_122) (by decide) (by decide)) ?_
    exact b0_130 hw C Z0 rr hP X e0 N K g_b0 z_b0 E_b0 F_b0_confidence F_b0_rung F_b0_connections F_b0_disconnections F_b0_maliciousAttempts F_b0_idleDisconnections x0 x2 x4 x6 x8 x9 x11 x12 x13 x14 x15 t0 (0 : Int64) hv
def f0_92 (c_b0_confidence : Int64) (c_b0_rung : Int32) (x2 : Int64) (x4 : Int64) (x6 : Int64) (x8 : Int32) (x9 : Int32) (x11 : Int32) (x12 : Int32) (x13 : Int32) (x14 : Int32) (t0 : Int64) : Option (Int32) := (if x12 = (0 : Int32) then (f0_114 c_b0_confidence c_b0_rung x2 x4 x6 x9 x11 x12 x13 x14 t0 (x8 ^^^ ((XT.ushr x9 (8 : Int32)) ||| (1 : Int32)))) else (f0_114 c_b0_confidence c_b0_rung x2 x4 x6 x9 x11 x12 x13 x14 t0 x8))
set_option maxRecDepth 65536 in
set_option maxHeartbeats 40000000 in
theorem b0_92 {p : Program} {l : Launch} {e : Env} {s : State} {m : MethodId} {args : Array Value} {below : List Frame} {meth : Method} {c : Code} {Z : State} {a0 : Array Value} {h0 : Heap} {n0 : Nat} {P : Option Value → Heap → List Loc → Prop} (hw : ∀ d ∈ tables_1, d.before a0 Z = true) (C : own_Ctx p s m meth c Z x code maxLocals ret) (Z0 : n0 ≤ h0.size)   (rr : Int32) (hP : ∀ v h L, Fr n0 L → Keep h0 h [] → E0 Z h0  rr v h → P v h L)
    {T : State} {locs : List Loc} {h : Heap} {b0 : Nat} {c_b0_confidence : Int64} {c_b0_rung : Int32} {c_b0_connections : Int64} {c_b0_disconnections : Int64} {c_b0_maliciousAttempts : Int64} {c_b0_idleDisconnections : Int64} (X : Stand p l e room_1 s m args below meth c T locs 1 6) (e0 : T.heap = h) (N : Fr n0 locs) (K : Keep h0 h []) (g_b0 : n0 ≤ b0) (z_b0 : h0.size ≤ b0) (E_b0 : Exa Z h b0 "com/example/uriel/uriel/Standing") (F_b0_confidence : Fld Z h b0 "com/example/uriel/uriel/Standing" "confidence" "J" (.long c_b0_confidence)) (F_b0_rung : Fld Z h b0 "com/example/uriel/uriel/Standing" "rung" "I" (.int c_b0_rung)) (F_b0_connections : Fld Z h b0 "com/example/uriel/uriel/Standing" "connections" "J" (.long c_b0_connections)) (F_b0_disconnections : Fld Z h b0 "com/example/uriel/uriel/Standing" "disconnections" "J" (.long c_b0_disconnections)) (F_b0_maliciousAttempts : Fld Z h b0 "com/example/uriel/uriel/Standing" "maliciousAttempts" "J" (.long c_b0_maliciousAttempts)) (F_b0_idleDisconnections : Fld Z h b0 "com/example/uriel/uriel/Standing" "idleDisconnections" "J" (.long c_b0_idleDisconnections)) (x0 : Int64) (x2 : Int64) (x4 : Int64) (x6 : Int64) (x8 : Int32) (x9 : Int32) (x11 : Int32) (x12 : Int32) (x13 : Int32) (x14 : Int32) (t0 : Int64) (hv : f0_92 c_b0_confidence c_b0_rung x2 x4 x6 x8 x9 x11 x12 x13 x14 t0 = some rr) :
    own_WP p e below (own_Q s P room_1.cells room_1.slots) T (mkF m 92 #[.val (.long x0), .second, .val (.long x2), .second, .val (.long x4), .second, .val (.long x6), .second, .val (.int x8), .val (.int x9), .val (.ref b0), .val (.int x11), .val (.int x12), .val (.int x13), .val (.int x14), .unset, .unset, .unset, .unset, .unset, .unset, .unset, .unset, .unset, .unset, .unset, .unset, .unset, .unset] [(.long t0)]) := by
  obtain ⟨hx, hZ, hby, hml, hown, hnm, hret, hlk⟩ := id C
  replace hown : s.vm.findClass "com/example/uriel/uriel/StandingAsStartedPinLaw" = some m.cls := hown
  unfold f0_92 at hv
  show own_WP p e below _ T (mkF m 92 #[.val (.long x0), .second, .val (.long x2), .second, .val (.long x4), .second, .val (.long x6), .second, .val (.int x8), .val (.int x9), .val (.ref b0), .val (.int x11), .val (.int x12), .val (.int x13), .val (.int x14), .unset, .unset, .unset, .unset, .unset, .unset, .unset, .unset, .unset, .unset, .unset, .unset, .unset, .unset] [(.long t0)])
  refine own_go (fun _ => XS.lstore X.here hx rfl (hb hby at_92) rfl (l' := #[.val (.long x0), .second, .val (.long x2), .second, .val (.long x4), .second, .val (.long x6), .second, .val (.int x8), .val (.int x9), .val (.ref b0), .val (.int x11), .val (.int x12), .val (.int x13), .val (.int x14), .val (.long t0), .second, .unset, .unset, .unset, .unset, .unset, .unset, .unset, .unset, .unset, .unset, .unset, .unset]) rfl) ?_
  show own_WP p e below _ T (mkF m 94 #[.val (.long x0), .second, .val (.long x2), .second, .val (.long x4), .second, .val (.long x6), .second, .val (.int x8), .val (.int x9), .val (.ref b0), .val (.int x11), .val (.int x12), .val (.int x13), .val (.int x14), .val (.long t0), .second, .unset, .unset, .unset, .unset, .unset, .unset, .unset, .unset, .unset, .unset, .unset, .unset] [])
  refine own_go (fun _ => XS.iload X.here hx rfl (hb hby at_94) rfl) ?_
  show own_WP p e below _ T (mkF m 96 #[.val (.long x0), .second, .val (.long x2), .second, .val (.long x4), .second, .val (.long x6), .second, .val (.int x8), .val (.int x9), .val (.ref b0), .val (.int x11), .val (.int x12), .val (.int x13), .val (.int x14), .val (.long t0), .second, .unset, .unset, .unset, .unset, .unset, .unset, .unset, .unset, .unset, .unset, .unset, .unset] [(.int x12)])
  by_cases h96 : x12 = (0 : Int32)
  · replace hv := (if_pos h96).symm.trans hv
    refine own_go (fun _ => XS.ifYes X.here hx rfl (pc0 := 96) (pc' := 104) rfl (hb hby at_96) rfl (XT.i0_eq_t h96) (by decide) (by decide)) ?_
    show own_WP p e below _ T (mkF m 104 #[.val (.long x0), .second, .val (.long x2), .second, .val (.long x4), .second, .val (.long x6), .second, .val (.int x8), .val (.int x9), .val (.ref b0), .val (.int x11), .val (.int x12), .val (.int x13), .val (.int x14), .val (.long t0), .second, .unset, .unset, .unset, .unset, .unset, .unset, .unset, .unset, .unset, .unset, .unset, .unset] [])
    refine own_go (fun _ => XS.iload X.here hx rfl (hb hby at_104) rfl) ?_
    show own_WP p e below _ T (mkF m 106 #[.val (.long x0), .second, .val (.long x2), .second, .val (.long x4), .second, .val (.long x6), .second, .val (.int x8), .val (.int x9), .val (.ref b0), .val (.int x11), .val (.int x12), .val (.int x13), .val (.int x14), .val (.long t0), .second, .unset, .unset, .unset, .unset, .unset, .unset, .unset, .unset, .unset, .unset, .unset, .unset] [(.int x8)])
    refine own_go (fun _ => XS.iload X.here hx rfl (hb hby at_106) rfl) ?_
    show own_WP p e below _ T (mkF m 108 #[.val (.long x0), .second, .val (.long x2), .second, .val (.long x4), .second, .val (.long x6), .second, .val (.int x8), .val (.int x9), .val (.ref b0), .val (.int x11), .val (.int x12), .val (.int x13), .val (.int x14), .val (.long t0), .second, .unset, .unset, .unset, .unset, .unset, .unset, .unset, .unset, .unset, .unset, .unset, .unset] [(.int x9), (.int x8)])
    refine own_go (fun _ => XS.bipush X.here hx rfl (hb hby at_108)) ?_
    show own_WP p e below _ T (mkF m 110 #[.val (.long x0), .second, .val (.long x2), .second, .val (.long x4), .second, .val (.long x6), .second, .val (.int x8), .val (.int x9), .val (.ref b0), .val (.int x11), .val (.int x12), .val (.int x13), .val (.int x14), .val (.long t0), .second, .unset, .unset, .unset, .unset, .unset, .unset, .unset, .unset, .unset, .unset, .unset, .unset] [(.int (8 : Int32)), (.int x9), (.int x8)])
    refine own_go (fun _ => XT.iushr X.here hx rfl (hb hby at_110) rfl) ?_
    show own_WP p e below _ T (mkF m 111 #[.val (.long x0), .second, .val (.long x2), .second, .val (.long x4), .second, .val (.long x6), .second, .val (.int x8), .val (.int x9), .val (.ref b0), .val (.int x11), .val (.int x12), .val (.int x13), .val (.int x14), .val (.long t0), .second, .unset, .unset, .unset, .unset, .unset, .unset, .unset, .unset, .unset, .unset, .unset, .unset] [(.int (XT.ushr x9 (8 : Int32))), (.int x8)])
    refine own_go (fun _ => XS.iconst X.here hx rfl (hb hby at_111)) ?_
    show own_WP p e below _ T (mkF m 112 #[.val (.long x0), .second, .val (.long x2), .second, .val (.long x4), .second, .val (.long x6), .second, .val (.int x8), .val (.int x9), .val (.ref b0), .val (.int x11), .val (.int x12), .val (.int x13), .val (.int x14), .val (.long t0), .second, .unset, .unset, .unset, .unset, .unset, .unset, .unset, .unset, .unset, .unset, .unset, .unset] [(.int (1 : Int32)), (.int (XT.ushr x9 (8 : Int32))), (.int x8)])
    refine own_go (fun _ => XS.ior X.here hx rfl (hb hby at_112) rfl) ?_
    show own_WP p e below _ T (mkF m 113 #[.val (.long x0), .second, .val (.long x2), .second, .val (.long x4), .second, .val (.long x6), .second, .val (.int x8), .val (.int x9), .val (.ref b0), .val (.int x11), .val (.int x12), .val (.int x13), .val (.int x14), .val (.long t0), .second, .unset, .unset, .unset, .unset, .unset, .unset, .unset, .unset, .unset, .unset, .unset, .unset] [(.int ((XT.ushr x9 (8 : Int32)) ||| (1 : Int32))), (.int x8)])
    refine own_go (fun _ => XS.ixor X.here hx rfl (hb hby at_113) rfl) ?_
    exact b0_114 hw C Z0 rr hP X e0 N K g_b0 z_b0 E_b0 F_b0_confidence F_b0_rung F_b0_connections F_b0_disconnections F_b0_maliciousAttempts F_b0_idleDisconnections x0 x2 x4 x6 x8 x9 x11 x12 x13 x14 t0 (x8 ^^^ ((XT.ushr x9 (8 : Int32)) ||| (1 : Int32))) hv
  · replace hv := (if_neg h96).symm.trans hv
    refine own_go (fun _ => XS.ifNo X.here hx rfl (hb hby at_96) rfl (XT.i0_eq_f h96)) ?_
    show own_WP p e below _ T (mkF m 99 #[.val (.long x0), .second, .val (.long x2), .second, .val (.long x4), .second, .val (.long x6), .second, .val (.int x8), .val (.int x9), .val (.ref b0), .val (.int x11), .val (.int x12), .val (.int x13), .val (.int x14), .val (.long t0), .second, .unset, .unset, .unset, .unset, .unset, .unset, .unset, .unset, .unset, .unset, .unset, .unset] [])
    refine own_go (fun _ => XS.iload X.here hx rfl (hb hby at_99) rfl) ?_
    show own_WP p e below _ T (mkF m 101 #[.val (.long x0), .second, .val (.long x2), .second, .val (.long x4), .second, .val (.long x6), .second, .val (.int x8), .val (.int x9), .val (.ref b0), .val (.int x11), .val (.int x12), .val (.int x13), .val (.int x14), .val (.long t0), .second, .unset, .unset, .unset, .unset, .unset, .unset, .unset, .unset, .unset, .unset, .unset, .unset] [(.int x8)])
    refine own_go (fun _ => XS.goto X.here hx rfl (pc0 := 101) (pc' := 114) rfl (hb hby at_101) (by decide) (by decide)) ?_
    exact b0_114 hw C Z0 rr hP X e0 N K g_b0 z_b0 E_b0 F_b0_confidence F_b0_rung F_b0_connections F_b0_disconnections F_b0_maliciousAttempts F_b0_idleDisconnections x0 x2 x4 x6 x8 x9 x11 x12 x13 x14 t0 x8 hv
def f0_76 (c_b0_confidence : Int64) (c_b0_rung : Int32) (x0 : Int64) (x2 : Int64) (x4 : Int64) (x6 : Int64) (x8 : Int32) (x9 : Int32) (x11 : Int32) (x12 : Int32) (x13 : Int32) (t0 : Int32) : Option (Int32) := (if x11 = (0 : Int32) then (f0_92 c_b0_confidence c_b0_rung x2 x4 x6 x8 x9 x11 x12 x13 t0 (x0 ^^^ (x2 ||| (1 : Int64)))) else (f0_92 c_b0_confidence c_b0_rung x2 x4 x6 x8 x9 x11 x12 x13 t0 x0))
set_option maxRecDepth 65536 in
set_option maxHeartbeats 40000000 in
theorem b0_76 {p : Program} {l : Launch} {e : Env} {s : State} {m : MethodId} {args : Array Value} {below : List Frame} {meth : Method} {c : Code} {Z : State} {a0 : Array Value} {h0 : Heap} {n0 : Nat} {P : Option Value → Heap → List Loc → Prop} (hw : ∀ d ∈ tables_1, d.before a0 Z = true) (C : own_Ctx p s m meth c Z x code maxLocals ret) (Z0 : n0 ≤ h0.size)   (rr : Int32) (hP : ∀ v h L, Fr n0 L → Keep h0 h [] → E0 Z h0  rr v h → P v h L)
    {T : State} {locs : List Loc} {h : Heap} {b0 : Nat} {c_b0_confidence : Int64} {c_b0_rung : Int32} {c_b0_connections : Int64} {c_b0_disconnections : Int64} {c_b0_maliciousAttempts : Int64} {c_b0_idleDisconnections : Int64} (X : Stand p l e room_1 s m args below meth c T locs 1 6) (e0 : T.heap = h) (N : Fr n0 locs) (K : Keep h0 h []) (g_b0 : n0 ≤ b0) (z_b0 : h0.size ≤ b0) (E_b0 : Exa Z h b0 "com/example/uriel/uriel/Standing") (F_b0_confidence : Fld Z h b0 "com/example/uriel/uriel/Standing" "confidence" "J" (.long c_b0_confidence)) (F_b0_rung : Fld Z h b0 "com/example/uriel/uriel/Standing" "rung" "I" (.int c_b0_rung)) (F_b0_connections : Fld Z h b0 "com/example/uriel/uriel/Standing" "connections" "J" (.long c_b0_connections)) (F_b0_disconnections : Fld Z h b0 "com/example/uriel/uriel/Standing" "disconnections" "J" (.long c_b0_disconnections)) (F_b0_maliciousAttempts : Fld Z h b0 "com/example/uriel/uriel/Standing" "maliciousAttempts" "J" (.long c_b0_maliciousAttempts)) (F_b0_idleDisconnections : Fld Z h b0 "com/example/uriel/uriel/Standing" "idleDisconnections" "J" (.long c_b0_idleDisconnections)) (x0 : Int64) (x2 : Int64) (x4 : Int64) (x6 : Int64) (x8 : Int32) (x9 : Int32) (x11 : Int32) (x12 : Int32) (x13 : Int32) (t0 : Int32) (hv : f0_76 c_b0_confidence c_b0_rung x0 x2 x4 x6 x8 x9 x11 x12 x13 t0 = some rr) :
    own_WP p e below (own_Q s P room_1.cells room_1.slots) T (mkF m 76 #[.val (.long x0), .second, .val (.long x2), .second, .val (.long x4), .second, .val (.long x6), .second, .val (.int x8), .val (.int x9), .val (.ref b0), .val (.int x11), .val (.int x12), .val (.int x13), .unset, .unset, .unset, .unset, .unset, .unset, .unset, .unset, .unset, .unset, .unset, .unset, .unset, .unset, .unset] [(.int t0)]) := by
  obtain ⟨hx, hZ, hby, hml, hown, hnm, hret, hlk⟩ := id C
  replace hown : s.vm.findClass "com/example/uriel/uriel/StandingAsStartedPinLaw" = some m.cls := hown
  unfold f0_76 at hv
  show own_WP p e below _ T (mkF m 76 #[.val (.long x0), .second, .val (.long x2), .second, .val (.long x4), .second, .val (.long x6), .second, .val (.int x8), .val (.int x9), .val (.ref b0), .val (.int x11), .val (.int x12), .val (.int x13), .unset, .unset, .unset, .unset, .unset, .unset, .unset, .unset, .unset, .unset, .unset, .unset, .unset, .unset, .unset] [(.int t0)])
  refine own_go (fun _ => XS.istore X.here hx rfl (hb hby at_76) rfl (l' := #[.val (.long x0), .second, .val (.long x2), .second, .val (.long x4), .second, .val (.long x6), .second, .val (.int x8), .val (.int x9), .val (.ref b0), .val (.int x11), .val (.int x12), .val (.int x13), .val (.int t0), .unset, .unset, .unset, .unset, .unset, .unset, .unset, .unset, .unset, .unset, .unset, .unset, .unset, .unset]) rfl) ?_
  show own_WP p e below _ T (mkF m 78 #[.val (.long x0), .second, .val (.long x2), .second, .val (.long x4), .second, .val (.long x6), .second, .val (.int x8), .val (.int x9), .val (.ref b0), .val (.int x11), .val (.int x12), .val (.int x13), .val (.int t0), .unset, .unset, .unset, .unset, .unset, .unset, .unset, .unset, .unset, .unset, .unset, .unset, .unset, .unset] [])
  refine own_go (fun _ => XS.iload X.here hx rfl (hb hby at_78) rfl) ?_
  show own_WP p e below _ T (mkF m 80 #[.val (.long x0), .second, .val (.long x2), .second, .val (.long x4), .second, .val (.long x6), .second, .val (.int x8), .val (.int x9), .val (.ref b0), .val (.int x11), .val (.int x12), .val (.int x13), .val (.int t0), .unset, .unset, .unset, .unset, .unset, .unset, .unset, .unset, .unset, .unset, .unset, .unset, .unset, .unset] [(.int x11)])
  by_cases h80 : x11 = (0 : Int32)
  · replace hv := (if_pos h80).symm.trans hv
    refine own_go (fun _ => XS.ifYes X.here hx rfl (pc0 := 80) (pc' := 87) rfl (hb hby at_80) rfl (XT.i0_eq_t h80) (by decide) (by decide)) ?_
    show own_WP p e below _ T (mkF m 87 #[.val (.long x0), .second, .val (.long x2), .second, .val (.long x4), .second, .val (.long x6), .second, .val (.int x8), .val (.int x9), .val (.ref b0), .val (.int x11), .val (.int x12), .val (.int x13), .val (.int t0), .unset, .unset, .unset, .unset, .unset, .unset, .unset, .unset, .unset, .unset, .unset, .unset, .unset, .unset] [])
    refine own_go (fun _ => XS.lloadN X.here hx rfl (hb hby at_87) rfl) ?_
    show own_WP p e below _ T (mkF m 88 #[.val (.long x0), .second, .val (.long x2), .second, .val (.long x4), .second, .val (.long x6), .second, .val (.int x8), .val (.int x9), .val (.ref b0), .val (.int x11), .val (.int x12), .val (.int x13), .val (.int t0), .unset, .unset, .unset, .unset, .unset, .unset, .unset, .unset, .unset, .unset, .unset, .unset, .unset, .unset] [(.long x0)])
    refine own_go (fun _ => XS.lloadN X.here hx rfl (hb hby at_88) rfl) ?_
    show own_WP p e below _ T (mkF m 89 #[.val (.long x0), .second, .val (.long x2), .second, .val (.long x4), .second, .val (.long x6), .second, .val (.int x8), .val (.int x9), .val (.ref b0), .val (.int x11), .val (.int x12), .val (.int x13), .val (.int t0), .unset, .unset, .unset, .unset, .unset, .unset, .unset, .unset, .unset, .unset, .unset, .unset, .unset, .unset] [(.long x2), (.long x0)])
    refine own_go (fun _ => XS.lconst X.here hx rfl (hb hby at_89)) ?_
    show own_WP p e below _ T (mkF m 90 #[.val (.long x0), .second, .val (.long x2), .second, .val (.long x4), .second, .val (.long x6), .second, .val (.int x8), .val (.int x9), .val (.ref b0), .val (.int x11), .val (.int x12), .val (.int x13), .val (.int t0), .unset, .unset, .unset, .unset, .unset, .unset, .unset, .unset, .unset, .unset, .unset, .unset, .unset, .unset] [(.long (1 : Int64)), (.long x2), (.long x0)])
    refine own_go (fun _ => XS.lor X.here hx rfl (hb hby at_90) rfl) ?_
    show own_WP p e below _ T (mkF m 91 #[.val (.long x0), .second, .val (.long x2), .second, .val (.long x4), .second, .val (.long x6), .second, .val (.int x8), .val (.int x9), .val (.ref b0), .val (.int x11), .val (.int x12), .val (.int x13), .val (.int t0), .unset, .unset, .unset, .unset, .unset, .unset, .unset, .unset, .unset, .unset, .unset, .unset, .unset, .unset] [(.long (x2 ||| (1 : Int64))), (.long x0)])
    refine own_go (fun _ => XS.lxor X.here hx rfl (hb hby at_91) rfl) ?_
    exact b0_92 hw C Z0 rr hP X e0 N K g_b0 z_b0 E_b0 F_b0_confidence F_b0_rung F_b0_connections F_b0_disconnections F_b0_maliciousAttempts F_b0_idleDisconnections x0 x2 x4 x6 x8 x9 x11 x12 x13 t0 (x0 ^^^ (x2 ||| (1 : Int64))) hv
  · replace hv := (if_neg h80).symm.trans hv
    refine own_go (fun _ => XS.ifNo X.here hx rfl (hb hby at_80) rfl (XT.i0_eq_f h80)) ?_
    show own_WP p e below _ T (mkF m 83 #[.val (.long x0), .second, .val (.long x2), .second, .val (.long x4), .second, .val (.long x6), .second, .val (.int x8), .val (.int x9), .val (.ref b0), .val (.int x11), .val (.int x12), .val (.int x13), .val (.int t0), .unset, .unset, .unset, .unset, .unset, .unset, .unset, .unset, .unset, .unset, .unset, .unset, .unset, .unset] [])
    refine own_go (fun _ => XS.lloadN X.here hx rfl (hb hby at_83) rfl) ?_
    show own_WP p e below _ T (mkF m 84 #[.val (.long x0), .second, .val (.long x2), .second, .val (.long x4), .second, .val (.long x6), .second, .val (.int x8), .val (.int x9), .val (.ref b0), .val (.int x11), .val (.int x12), .val (.int x13), .val (.int t0), .unset, .unset, .unset, .unset, .unset, .unset, .unset, .unset, .unset, .unset, .unset, .unset, .unset, .unset] [(.long x0)])
    refine own_go (fun _ => XS.goto X.here hx rfl (pc0 := 84) (pc' := 92) rfl (hb hby at_84) (by decide) (by decide)) ?_
    exact b0_92 hw C Z0 rr hP X e0 N K g_b0 z_b0 E_b0 F_b0_confidence F_b0_rung F_b0_connections F_b0_disconnections F_b0_maliciousAttempts F_b0_idleDisconnections x0 x2 x4 x6 x8 x9 x11 x12 x13 t0 x0 hv
def f0_61 (c_b0_confidence : Int64) (c_b0_rung : Int32) (x0 : Int64) (x2 : Int64) (x4 : Int64) (x6 : Int64) (x8 : Int32) (x9 : Int32) (x11 : Int32) (x12 : Int32) (t0 : Int32) : Option (Int32) := (if (x9 &&& (8 : Int32)) = (0 : Int32) then (f0_76 c_b0_confidence c_b0_rung x0 x2 x4 x6 x8 x9 x11 x12 t0 (1 : Int32)) else (f0_76 c_b0_confidence c_b0_rung x0 x2 x4 x6 x8 x9 x11 x12 t0 (0 : Int32)))
set_option maxRecDepth 65536 in
set_option maxHeartbeats 40000000 in
theorem b0_61 {p : Program} {l : Launch} {e : Env} {s : State} {m : MethodId} {args : Array Value} {below : List Frame} {meth : Method} {c : Code} {Z : State} {a0 : Array Value} {h0 : Heap} {n0 : Nat} {P : Option Value → Heap → List Loc → Prop} (hw : ∀ d ∈ tables_1, d.before a0 Z = true) (C : own_Ctx p s m meth c Z x code maxLocals ret) (Z0 : n0 ≤ h0.size)   (rr : Int32) (hP : ∀ v h L, Fr n0 L → Keep h0 h [] → E0 Z h0  rr v h → P v h L)
    {T : State} {locs : List Loc} {h : Heap} {b0 : Nat} {c_b0_confidence : Int64} {c_b0_rung : Int32} {c_b0_connections : Int64} {c_b0_disconnections : Int64} {c_b0_maliciousAttempts : Int64} {c_b0_idleDisconnections : Int64} (X : Stand p l e room_1 s m args below meth c T locs 1 6) (e0 : T.heap = h) (N : Fr n0 locs) (K : Keep h0 h []) (g_b0 : n0 ≤ b0) (z_b0 : h0.size ≤ b0) (E_b0 : Exa Z h b0 "com/example/uriel/uriel/Standing") (F_b0_confidence : Fld Z h b0 "com/example/uriel/uriel/Standing" "confidence" "J" (.long c_b0_confidence)) (F_b0_rung : Fld Z h b0 "com/example/uriel/uriel/Standing" "rung" "I" (.int c_b0_rung)) (F_b0_connections : Fld Z h b0 "com/example/uriel/uriel/Standing" "connections" "J" (.long c_b0_connections)) (F_b0_disconnections : Fld Z h b0 "com/example/uriel/uriel/Standing" "disconnections" "J" (.long c_b0_disconnections)) (F_b0_maliciousAttempts : Fld Z h b0 "com/example/uriel/uriel/Standing" "maliciousAttempts" "J" (.long c_b0_maliciousAttempts)) (F_b0_idleDisconnections : Fld Z h b0 "com/example/uriel/uriel/Standing" "idleDisconnections" "J" (.long c_b0_idleDisconnections)) (x0 : Int64) (x2 : Int64) (x4 : Int64) (x6 : Int64) (x8 : Int32) (x9 : Int32) (x11 : Int32) (x12 : Int32) (t0 : Int32) (hv : f0_61 c_b0_confidence c_b0_rung x0 x2 x4 x6 x8 x9 x11 x12 t0 = some rr) :
    own_WP p e below (own_Q s P room_1.cells room_1.slots) T (mkF m 61 #[.val (.long x0), .second, .val (.long x2), .second, .val (.long x4), .second, .val (.long x6), .second, .val (.int x8), .val (.int x9), .val (.ref b0), .val (.int x11), .val (.int x12), .unset, .unset, .unset, .unset, .unset, .unset, .unset, .unset, .unset, .unset, .unset, .unset, .unset, .unset, .unset, .unset] [(.int t0)]) := by
  obtain ⟨hx, hZ, hby, hml, hown, hnm, hret, hlk⟩ := id C
  replace hown : s.vm.findClass "com/example/uriel/uriel/StandingAsStartedPinLaw" = some m.cls := hown
  unfold f0_61 at hv
  show own_WP p e below _ T (mkF m 61 #[.val (.long x0), .second, .val (.long x2), .second, .val (.long x4), .second, .val (.long x6), .second, .val (.int x8), .val (.int x9), .val (.ref b0), .val (.int x11), .val (.int x12), .unset, .unset, .unset, .unset, .unset, .unset, .unset, .unset, .unset, .unset, .unset, .unset, .unset, .unset, .unset, .unset] [(.int t0)])
  refine own_go (fun _ => XS.istore X.here hx rfl (hb hby at_61) rfl (l' := #[.val (.long x0), .second, .val (.long x2), .second, .val (.long x4), .second, .val (.long x6), .second, .val (.int x8), .val (.int x9), .val (.ref b0), .val (.int x11), .val (.int x12), .val (.int t0), .unset, .unset, .unset, .unset, .unset, .unset, .unset, .unset, .unset, .unset, .unset, .unset, .unset, .unset, .unset]) rfl) ?_
  show own_WP p e below _ T (mkF m 63 #[.val (.long x0), .second, .val (.long x2), .second, .val (.long x4), .second, .val (.long x6), .second, .val (.int x8), .val (.int x9), .val (.ref b0), .val (.int x11), .val (.int x12), .val (.int t0), .unset, .unset, .unset, .unset, .unset, .unset, .unset, .unset, .unset, .unset, .unset, .unset, .unset, .unset, .unset] [])
  refine own_go (fun _ => XS.iload X.here hx rfl (hb hby at_63) rfl) ?_
  show own_WP p e below _ T (mkF m 65 #[.val (.long x0), .second, .val (.long x2), .second, .val (.long x4), .second, .val (.long x6), .second, .val (.int x8), .val (.int x9), .val (.ref b0), .val (.int x11), .val (.int x12), .val (.int t0), .unset, .unset, .unset, .unset, .unset, .unset, .unset, .unset, .unset, .unset, .unset, .unset, .unset, .unset, .unset] [(.int x9)])
  refine own_go (fun _ => XS.bipush X.here hx rfl (hb hby at_65)) ?_
  show own_WP p e below _ T (mkF m 67 #[.val (.long x0), .second, .val (.long x2), .second, .val (.long x4), .second, .val (.long x6), .second, .val (.int x8), .val (.int x9), .val (.ref b0), .val (.int x11), .val (.int x12), .val (.int t0), .unset, .unset, .unset, .unset, .unset, .unset, .unset, .unset, .unset, .unset, .unset, .unset, .unset, .unset, .unset] [(.int (8 : Int32)), (.int x9)])
  refine own_go (fun _ => XS.iand X.here hx rfl (hb hby at_67) rfl) ?_
  show own_WP p e below _ T (mkF m 68 #[.val (.long x0), .second, .val (.long x2), .second, .val (.long x4), .second, .val (.long x6), .second, .val (.int x8), .val (.int x9), .val (.ref b0), .val (.int x11), .val (.int x12), .val (.int t0), .unset, .unset, .unset, .unset, .unset, .unset, .unset, .unset, .unset, .unset, .unset, .unset, .unset, .unset, .unset] [(.int (x9 &&& (8 : Int32)))])
  by_cases h68 : (x9 &&& (8 : Int32)) = (0 : Int32)
  · replace hv := (if_pos h68).symm.trans hv
    refine own_go (fun _ => XS.ifNo X.here hx rfl (hb hby at_68) rfl (XT.i0_ne_f h68)) ?_
    show own_WP p e below _ T (mkF m 71 #[.val (.long x0), .second, .val (.long x2), .second, .val (.long x4), .second, .val (.long x6), .second, .val (.int x8), .val (.int x9), .val (.ref b0), .val (.int x11), .val (.int x12), .val (.int t0), .unset, .unset, .unset, .unset, .unset, .unset, .unset, .unset, .unset, .unset, .unset, .unset, .unset, .unset, .unset] [])
    refine own_go (fun _ => XS.iconst X.here hx rfl (hb hby at_71)) ?_
    show own_WP p e below _ T (mkF m 72 #[.val (.long x0), .second, .val (.long x2), .second, .val (.long x4), .second, .val (.long x6), .second, .val (.int x8), .val (.int x9), .val (.ref b0), .val (.int x11), .val (.int x12), .val (.int t0), .unset, .unset, .unset, .unset, .unset, .unset, .unset, .unset, .unset, .unset, .unset, .unset, .unset, .unset, .unset] [(.int (1 : Int32))])
    refine own_go (fun _ => XS.goto X.here hx rfl (pc0 := 72) (pc' := 76) rfl (hb hby at_72) (by decide) (by decide)) ?_
    exact b0_76 hw C Z0 rr hP X e0 N K g_b0 z_b0 E_b0 F_b0_confidence F_b0_rung F_b0_connections F_b0_disconnections F_b0_maliciousAttempts F_b0_idleDisconnections x0 x2 x4 x6 x8 x9 x11 x12 t0 (1 : Int32) hv
  · replace hv := (if_neg h68).symm.trans hv
    refine own_go (fun _ => XS.ifYes X.here hx rfl (pc0 := 68) (pc' := 75) rfl (hb hby at_68) rfl (XT.i0_ne_t h68) (by decide) (by decide)) ?_
    show own_WP p e below _ T (mkF m 75 #[.val (.long x0), .second, .val (.long x2), .second, .val (.long x4), .second, .val (.long x6), .second, .val (.int x8), .val (.int x9), .val (.ref b0), .val (.int x11), .val (.int x12), .val (.int t0), .unset, .unset, .unset, .unset, .unset, .unset, .unset, .unset, .unset, .unset, .unset, .unset, .unset, .unset, .unset] [])
    refine own_go (fun _ => XS.iconst X.here hx rfl (hb hby at_75)) ?_
    exact b0_76 hw C Z0 rr hP X e0 N K g_b0 z_b0 E_b0 F_b0_confidence F_b0_rung F_b0_connections F_b0_disconnections F_b0_maliciousAttempts F_b0_idleDisconnections x0 x2 x4 x6 x8 x9 x11 x12 t0 (0 : Int32) hv
def f0_47 (c_b0_confidence : Int64) (c_b0_rung : Int32) (x0 : Int64) (x2 : Int64) (x4 : Int64) (x6 : Int64) (x8 : Int32) (x9 : Int32) (x11 : Int32) (t0 : Int32) : Option (Int32) := (if (x9 &&& (4 : Int32)) = (0 : Int32) then (f0_61 c_b0_confidence c_b0_rung x0 x2 x4 x6 x8 x9 x11 t0 (1 : Int32)) else (f0_61 c_b0_confidence c_b0_rung x0 x2 x4 x6 x8 x9 x11 t0 (0 : Int32)))
set_option maxRecDepth 65536 in
set_option maxHeartbeats 40000000 in
theorem b0_47 {p : Program} {l : Launch} {e : Env} {s : State} {m : MethodId} {args : Array Value} {below : List Frame} {meth : Method} {c : Code} {Z : State} {a0 : Array Value} {h0 : Heap} {n0 : Nat} {P : Option Value → Heap → List Loc → Prop} (hw : ∀ d ∈ tables_1, d.before a0 Z = true) (C : own_Ctx p s m meth c Z x code maxLocals ret) (Z0 : n0 ≤ h0.size)   (rr : Int32) (hP : ∀ v h L, Fr n0 L → Keep h0 h [] → E0 Z h0  rr v h → P v h L)
    {T : State} {locs : List Loc} {h : Heap} {b0 : Nat} {c_b0_confidence : Int64} {c_b0_rung : Int32} {c_b0_connections : Int64} {c_b0_disconnections : Int64} {c_b0_maliciousAttempts : Int64} {c_b0_idleDisconnections : Int64} (X : Stand p l e room_1 s m args below meth c T locs 1 6) (e0 : T.heap = h) (N : Fr n0 locs) (K : Keep h0 h []) (g_b0 : n0 ≤ b0) (z_b0 : h0.size ≤ b0) (E_b0 : Exa Z h b0 "com/example/uriel/uriel/Standing") (F_b0_confidence : Fld Z h b0 "com/example/uriel/uriel/Standing" "confidence" "J" (.long c_b0_confidence)) (F_b0_rung : Fld Z h b0 "com/example/uriel/uriel/Standing" "rung" "I" (.int c_b0_rung)) (F_b0_connections : Fld Z h b0 "com/example/uriel/uriel/Standing" "connections" "J" (.long c_b0_connections)) (F_b0_disconnections : Fld Z h b0 "com/example/uriel/uriel/Standing" "disconnections" "J" (.long c_b0_disconnections)) (F_b0_maliciousAttempts : Fld Z h b0 "com/example/uriel/uriel/Standing" "maliciousAttempts" "J" (.long c_b0_maliciousAttempts)) (F_b0_idleDisconnections : Fld Z h b0 "com/example/uriel/uriel/Standing" "idleDisconnections" "J" (.long c_b0_idleDisconnections)) (x0 : Int64) (x2 : Int64) (x4 : Int64) (x6 : Int64) (x8 : Int32) (x9 : Int32) (x11 : Int32) (t0 : Int32) (hv : f0_47 c_b0_confidence c_b0_rung x0 x2 x4 x6 x8 x9 x11 t0 = some rr) :
    own_WP p e below (own_Q s P room_1.cells room_1.slots) T (mkF m 47 #[.val (.long x0), .second, .val (.long x2), .second, .val (.long x4), .second, .val (.long x6), .second, .val (.int x8), .val (.int x9), .val (.ref b0), .val (.int x11), .unset, .unset, .unset, .unset, .unset, .unset, .unset, .unset, .unset, .unset, .unset, .unset, .unset, .unset, .unset, .unset, .unset] [(.int t0)]) := by
  obtain ⟨hx, hZ, hby, hml, hown, hnm, hret, hlk⟩ := id C
  replace hown : s.vm.findClass "com/example/uriel/uriel/StandingAsStartedPinLaw" = some m.cls := hown
  unfold f0_47 at hv
  show own_WP p e below _ T (mkF m 47 #[.val (.long x0), .second, .val (.long x2), .second, .val (.long x4), .second, .val (.long x6), .second, .val (.int x8), .val (.int x9), .val (.ref b0), .val (.int x11), .unset, .unset, .unset, .unset, .unset, .unset, .unset, .unset, .unset, .unset, .unset, .unset, .unset, .unset, .unset, .unset, .unset] [(.int t0)])
  refine own_go (fun _ => XS.istore X.here hx rfl (hb hby at_47) rfl (l' := #[.val (.long x0), .second, .val (.long x2), .second, .val (.long x4), .second, .val (.long x6), .second, .val (.int x8), .val (.int x9), .val (.ref b0), .val (.int x11), .val (.int t0), .unset, .unset, .unset, .unset, .unset, .unset, .unset, .unset, .unset, .unset, .unset, .unset, .unset, .unset, .unset, .unset]) rfl) ?_
  show own_WP p e below _ T (mkF m 49 #[.val (.long x0), .second, .val (.long x2), .second, .val (.long x4), .second, .val (.long x6), .second, .val (.int x8), .val (.int x9), .val (.ref b0), .val (.int x11), .val (.int t0), .unset, .unset, .unset, .unset, .unset, .unset, .unset, .unset, .unset, .unset, .unset, .unset, .unset, .unset, .unset, .unset] [])
  refine own_go (fun _ => XS.iload X.here hx rfl (hb hby at_49) rfl) ?_
  show own_WP p e below _ T (mkF m 51 #[.val (.long x0), .second, .val (.long x2), .second, .val (.long x4), .second, .val (.long x6), .second, .val (.int x8), .val (.int x9), .val (.ref b0), .val (.int x11), .val (.int t0), .unset, .unset, .unset, .unset, .unset, .unset, .unset, .unset, .unset, .unset, .unset, .unset, .unset, .unset, .unset, .unset] [(.int x9)])
  refine own_go (fun _ => XS.iconst X.here hx rfl (hb hby at_51)) ?_
  show own_WP p e below _ T (mkF m 52 #[.val (.long x0), .second, .val (.long x2), .second, .val (.long x4), .second, .val (.long x6), .second, .val (.int x8), .val (.int x9), .val (.ref b0), .val (.int x11), .val (.int t0), .unset, .unset, .unset, .unset, .unset, .unset, .unset, .unset, .unset, .unset, .unset, .unset, .unset, .unset, .unset, .unset] [(.int (4 : Int32)), (.int x9)])
  refine own_go (fun _ => XS.iand X.here hx rfl (hb hby at_52) rfl) ?_
  show own_WP p e below _ T (mkF m 53 #[.val (.long x0), .second, .val (.long x2), .second, .val (.long x4), .second, .val (.long x6), .second, .val (.int x8), .val (.int x9), .val (.ref b0), .val (.int x11), .val (.int t0), .unset, .unset, .unset, .unset, .unset, .unset, .unset, .unset, .unset, .unset, .unset, .unset, .unset, .unset, .unset, .unset] [(.int (x9 &&& (4 : Int32)))])
  by_cases h53 : (x9 &&& (4 : Int32)) = (0 : Int32)
  · replace hv := (if_pos h53).symm.trans hv
    refine own_go (fun _ => XS.ifNo X.here hx rfl (hb hby at_53) rfl (XT.i0_ne_f h53)) ?_
    show own_WP p e below _ T (mkF m 56 #[.val (.long x0), .second, .val (.long x2), .second, .val (.long x4), .second, .val (.long x6), .second, .val (.int x8), .val (.int x9), .val (.ref b0), .val (.int x11), .val (.int t0), .unset, .unset, .unset, .unset, .unset, .unset, .unset, .unset, .unset, .unset, .unset, .unset, .unset, .unset, .unset, .unset] [])
    refine own_go (fun _ => XS.iconst X.here hx rfl (hb hby at_56)) ?_
    show own_WP p e below _ T (mkF m 57 #[.val (.long x0), .second, .val (.long x2), .second, .val (.long x4), .second, .val (.long x6), .second, .val (.int x8), .val (.int x9), .val (.ref b0), .val (.int x11), .val (.int t0), .unset, .unset, .unset, .unset, .unset, .unset, .unset, .unset, .unset, .unset, .unset, .unset, .unset, .unset, .unset, .unset] [(.int (1 : Int32))])
    refine own_go (fun _ => XS.goto X.here hx rfl (pc0 := 57) (pc' := 61) rfl (hb hby at_57) (by decide) (by decide)) ?_
    exact b0_61 hw C Z0 rr hP X e0 N K g_b0 z_b0 E_b0 F_b0_confidence F_b0_rung F_b0_connections F_b0_disconnections F_b0_maliciousAttempts F_b0_idleDisconnections x0 x2 x4 x6 x8 x9 x11 t0 (1 : Int32) hv
  · replace hv := (if_neg h53).symm.trans hv
    refine own_go (fun _ => XS.ifYes X.here hx rfl (pc0 := 53) (pc' := 60) rfl (hb hby at_53) rfl (XT.i0_ne_t h53) (by decide) (by decide)) ?_
    show own_WP p e below _ T (mkF m 60 #[.val (.long x0), .second, .val (.long x2), .second, .val (.long x4), .second, .val (.long x6), .second, .val (.int x8), .val (.int x9), .val (.ref b0), .val (.int x11), .val (.int t0), .unset, .unset, .unset, .unset, .unset, .unset, .unset, .unset, .unset, .unset, .unset, .unset, .unset, .unset, .unset, .unset] [])
    refine own_go (fun _ => XS.iconst X.here hx rfl (hb hby at_60)) ?_
    exact b0_61 hw C Z0 rr hP X e0 N K g_b0 z_b0 E_b0 F_b0_confidence F_b0_rung F_b0_connections F_b0_disconnections F_b0_maliciousAttempts F_b0_idleDisconnections x0 x2 x4 x6 x8 x9 x11 t0 (0 : Int32) hv
def f0_33 (c_b0_confidence : Int64) (c_b0_rung : Int32) (x0 : Int64) (x2 : Int64) (x4 : Int64) (x6 : Int64) (x8 : Int32) (x9 : Int32) (t0 : Int32) : Option (Int32) := (if (x9 &&& (2 : Int32)) = (0 : Int32) then (f0_47 c_b0_confidence c_b0_rung x0 x2 x4 x6 x8 x9 t0 (1 : Int32)) else (f0_47 c_b0_confidence c_b0_rung x0 x2 x4 x6 x8 x9 t0 (0 : Int32)))
set_option maxRecDepth 65536 in
set_option maxHeartbeats 40000000 in
theorem b0_33 {p : Program} {l : Launch} {e : Env} {s : State} {m : MethodId} {args : Array Value} {below : List Frame} {meth : Method} {c : Code} {Z : State} {a0 : Array Value} {h0 : Heap} {n0 : Nat} {P : Option Value → Heap → List Loc → Prop} (hw : ∀ d ∈ tables_1, d.before a0 Z = true) (C : own_Ctx p s m meth c Z x code maxLocals ret) (Z0 : n0 ≤ h0.size)   (rr : Int32) (hP : ∀ v h L, Fr n0 L → Keep h0 h [] → E0 Z h0  rr v h → P v h L)
    {T : State} {locs : List Loc} {h : Heap} {b0 : Nat} {c_b0_confidence : Int64} {c_b0_rung : Int32} {c_b0_connections : Int64} {c_b0_disconnections : Int64} {c_b0_maliciousAttempts : Int64} {c_b0_idleDisconnections : Int64} (X : Stand p l e room_1 s m args below meth c T locs 1 6) (e0 : T.heap = h) (N : Fr n0 locs) (K : Keep h0 h []) (g_b0 : n0 ≤ b0) (z_b0 : h0.size ≤ b0) (E_b0 : Exa Z h b0 "com/example/uriel/uriel/Standing") (F_b0_confidence : Fld Z h b0 "com/example/uriel/uriel/Standing" "confidence" "J" (.long c_b0_confidence)) (F_b0_rung : Fld Z h b0 "com/example/uriel/uriel/Standing" "rung" "I" (.int c_b0_rung)) (F_b0_connections : Fld Z h b0 "com/example/uriel/uriel/Standing" "connections" "J" (.long c_b0_connections)) (F_b0_disconnections : Fld Z h b0 "com/example/uriel/uriel/Standing" "disconnections" "J" (.long c_b0_disconnections)) (F_b0_maliciousAttempts : Fld Z h b0 "com/example/uriel/uriel/Standing" "maliciousAttempts" "J" (.long c_b0_maliciousAttempts)) (F_b0_idleDisconnections : Fld Z h b0 "com/example/uriel/uriel/Standing" "idleDisconnections" "J" (.long c_b0_idleDisconnections)) (x0 : Int64) (x2 : Int64) (x4 : Int64) (x6 : Int64) (x8 : Int32) (x9 : Int32) (t0 : Int32) (hv : f0_33 c_b0_confidence c_b0_rung x0 x2 x4 x6 x8 x9 t0 = some rr) :
    own_WP p e below (own_Q s P room_1.cells room_1.slots) T (mkF m 33 #[.val (.long x0), .second, .val (.long x2), .second, .val (.long x4), .second, .val (.long x6), .second, .val (.int x8), .val (.int x9), .val (.ref b0), .unset, .unset, .unset, .unset, .unset, .unset, .unset, .unset, .unset, .unset, .unset, .unset, .unset, .unset, .unset, .unset, .unset, .unset] [(.int t0)]) := by
  obtain ⟨hx, hZ, hby, hml, hown, hnm, hret, hlk⟩ := id C
  replace hown : s.vm.findClass "com/example/uriel/uriel/StandingAsStartedPinLaw" = some m.cls := hown
  unfold f0_33 at hv
  show own_WP p e below _ T (mkF m 33 #[.val (.long x0), .second, .val (.long x2), .second, .val (.long x4), .second, .val (.long x6), .second, .val (.int x8), .val (.int x9), .val (.ref b0), .unset, .unset, .unset, .unset, .unset, .unset, .unset, .unset, .unset, .unset, .unset, .unset, .unset, .unset, .unset, .unset, .unset, .unset] [(.int t0)])
  refine own_go (fun _ => XS.istore X.here hx rfl (hb hby at_33) rfl (l' := #[.val (.long x0), .second, .val (.long x2), .second, .val (.long x4), .second, .val (.long x6), .second, .val (.int x8), .val (.int x9), .val (.ref b0), .val (.int t0), .unset, .unset, .unset, .unset, .unset, .unset, .unset, .unset, .unset, .unset, .unset, .unset, .unset, .unset, .unset, .unset, .unset]) rfl) ?_
  show own_WP p e below _ T (mkF m 35 #[.val (.long x0), .second, .val (.long x2), .second, .val (.long x4), .second, .val (.long x6), .second, .val (.int x8), .val (.int x9), .val (.ref b0), .val (.int t0), .unset, .unset, .unset, .unset, .unset, .unset, .unset, .unset, .unset, .unset, .unset, .unset, .unset, .unset, .unset, .unset, .unset] [])
  refine own_go (fun _ => XS.iload X.here hx rfl (hb hby at_35) rfl) ?_
  show own_WP p e below _ T (mkF m 37 #[.val (.long x0), .second, .val (.long x2), .second, .val (.long x4), .second, .val (.long x6), .second, .val (.int x8), .val (.int x9), .val (.ref b0), .val (.int t0), .unset, .unset, .unset, .unset, .unset, .unset, .unset, .unset, .unset, .unset, .unset, .unset, .unset, .unset, .unset, .unset, .unset] [(.int x9)])
  refine own_go (fun _ => XS.iconst X.here hx rfl (hb hby at_37)) ?_
  show own_WP p e below _ T (mkF m 38 #[.val (.long x0), .second, .val (.long x2), .second, .val (.long x4), .second, .val (.long x6), .second, .val (.int x8), .val (.int x9), .val (.ref b0), .val (.int t0), .unset, .unset, .unset, .unset, .unset, .unset, .unset, .unset, .unset, .unset, .unset, .unset, .unset, .unset, .unset, .unset, .unset] [(.int (2 : Int32)), (.int x9)])
  refine own_go (fun _ => XS.iand X.here hx rfl (hb hby at_38) rfl) ?_
  show own_WP p e below _ T (mkF m 39 #[.val (.long x0), .second, .val (.long x2), .second, .val (.long x4), .second, .val (.long x6), .second, .val (.int x8), .val (.int x9), .val (.ref b0), .val (.int t0), .unset, .unset, .unset, .unset, .unset, .unset, .unset, .unset, .unset, .unset, .unset, .unset, .unset, .unset, .unset, .unset, .unset] [(.int (x9 &&& (2 : Int32)))])
  by_cases h39 : (x9 &&& (2 : Int32)) = (0 : Int32)
  · replace hv := (if_pos h39).symm.trans hv
    refine own_go (fun _ => XS.ifNo X.here hx rfl (hb hby at_39) rfl (XT.i0_ne_f h39)) ?_
    show own_WP p e below _ T (mkF m 42 #[.val (.long x0), .second, .val (.long x2), .second, .val (.long x4), .second, .val (.long x6), .second, .val (.int x8), .val (.int x9), .val (.ref b0), .val (.int t0), .unset, .unset, .unset, .unset, .unset, .unset, .unset, .unset, .unset, .unset, .unset, .unset, .unset, .unset, .unset, .unset, .unset] [])
    refine own_go (fun _ => XS.iconst X.here hx rfl (hb hby at_42)) ?_
    show own_WP p e below _ T (mkF m 43 #[.val (.long x0), .second, .val (.long x2), .second, .val (.long x4), .second, .val (.long x6), .second, .val (.int x8), .val (.int x9), .val (.ref b0), .val (.int t0), .unset, .unset, .unset, .unset, .unset, .unset, .unset, .unset, .unset, .unset, .unset, .unset, .unset, .unset, .unset, .unset, .unset] [(.int (1 : Int32))])
    refine own_go (fun _ => XS.goto X.here hx rfl (pc0 := 43) (pc' := 47) rfl (hb hby at_43) (by decide) (by decide)) ?_
    exact b0_47 hw C Z0 rr hP X e0 N K g_b0 z_b0 E_b0 F_b0_confidence F_b0_rung F_b0_connections F_b0_disconnections F_b0_maliciousAttempts F_b0_idleDisconnections x0 x2 x4 x6 x8 x9 t0 (1 : Int32) hv
  · replace hv := (if_neg h39).symm.trans hv
    refine own_go (fun _ => XS.ifYes X.here hx rfl (pc0 := 39) (pc' := 46) rfl (hb hby at_39) rfl (XT.i0_ne_t h39) (by decide) (by decide)) ?_
    show own_WP p e below _ T (mkF m 46 #[.val (.long x0), .second, .val (.long x2), .second, .val (.long x4), .second, .val (.long x6), .second, .val (.int x8), .val (.int x9), .val (.ref b0), .val (.int t0), .unset, .unset, .unset, .unset, .unset, .unset, .unset, .unset, .unset, .unset, .unset, .unset, .unset, .unset, .unset, .unset, .unset] [])
    refine own_go (fun _ => XS.iconst X.here hx rfl (hb hby at_46)) ?_
    exact b0_47 hw C Z0 rr hP X e0 N K g_b0 z_b0 E_b0 F_b0_confidence F_b0_rung F_b0_connections F_b0_disconnections F_b0_maliciousAttempts F_b0_idleDisconnections x0 x2 x4 x6 x8 x9 t0 (0 : Int32) hv
def f0_0 (x0 : Int64) (x2 : Int64) (x4 : Int64) (x6 : Int64) (x8 : Int32) (x9 : Int32) : Option (Int32) := ((f1_0 x0 x8 x6 x4 x2 (x2 ^^^ x4)).bind fun rr2 => (if (x9 &&& (1 : Int32)) = (0 : Int32) then (f0_33 (rr2.1) (rr2.2.1) x0 x2 x4 x6 x8 x9 (1 : Int32)) else (f0_33 (rr2.1) (rr2.2.1) x0 x2 x4 x6 x8 x9 (0 : Int32))))
set_option maxRecDepth 65536 in
set_option maxHeartbeats 40000000 in
theorem b0_0 {p : Program} {l : Launch} {e : Env} {s : State} {m : MethodId} {args : Array Value} {below : List Frame} {meth : Method} {c : Code} {Z : State} {a0 : Array Value} {h0 : Heap} {n0 : Nat} {P : Option Value → Heap → List Loc → Prop} (hw : ∀ d ∈ tables_1, d.before a0 Z = true) (C : own_Ctx p s m meth c Z x code maxLocals ret) (Z0 : n0 ≤ h0.size)   (rr : Int32) (hP : ∀ v h L, Fr n0 L → Keep h0 h [] → E0 Z h0  rr v h → P v h L)
    {T : State} {locs : List Loc} {h : Heap} (X : Stand p l e room_1 s m args below meth c T locs 0 0) (e0 : T.heap = h) (N : Fr n0 locs) (K : Keep h0 h []) (x0 : Int64) (x2 : Int64) (x4 : Int64) (x6 : Int64) (x8 : Int32) (x9 : Int32) (hv : f0_0 x0 x2 x4 x6 x8 x9 = some rr) :
    own_WP p e below (own_Q s P room_1.cells room_1.slots) T (mkF m 0 #[.val (.long x0), .second, .val (.long x2), .second, .val (.long x4), .second, .val (.long x6), .second, .val (.int x8), .val (.int x9), .unset, .unset, .unset, .unset, .unset, .unset, .unset, .unset, .unset, .unset, .unset, .unset, .unset, .unset, .unset, .unset, .unset, .unset, .unset] []) := by
  obtain ⟨hx, hZ, hby, hml, hown, hnm, hret, hlk⟩ := id C
  replace hown : s.vm.findClass "com/example/uriel/uriel/StandingAsStartedPinLaw" = some m.cls := hown
  unfold f0_0 at hv
  show own_WP p e below _ T (mkF m 0 #[.val (.long x0), .second, .val (.long x2), .second, .val (.long x4), .second, .val (.long x6), .second, .val (.int x8), .val (.int x9), .unset, .unset, .unset, .unset, .unset, .unset, .unset, .unset, .unset, .unset, .unset, .unset, .unset, .unset, .unset, .unset, .unset, .unset, .unset] [])
  obtain ⟨T1, h1, X1, e1, E1, A1, D1, -, st1⟩ := newO X hx hZ hown (hw _ (List.mem_of_getElem? (i := 0) rfl)) (hw _ (List.mem_of_getElem? (i := 1) rfl)) (hw _ (List.mem_of_getElem? (i := 2) rfl)) e0 (g := (mkF m 0 #[.val (.long x0), .second, .val (.long x2), .second, .val (.long x4), .second, .val (.long x6), .second, .val (.int x8), .val (.int x9), .unset, .unset, .unset, .unset, .unset, .unset, .unset, .unset, .unset, .unset, .unset, .unset, .unset, .unset, .unset, .unset, .unset, .unset, .unset] [])) rfl (hb hby at_0) (by decide) (by decide)
  obtain ⟨b0, hb_b0⟩ : ∃ z, z = h.size := ⟨_, rfl⟩
  rw [← hb_b0] at A1 D1 st1
  refine own_go st1 ?_
  have g_b0 : n0 ≤ b0 := by have q := K.1; omega
  have z_b0 : h0.size ≤ b0 := by have q := K.1; omega
  replace K := K.ext E1
  have E_b0 := A1
  have F_b0_confidence : Fld Z h1 b0 "com/example/uriel/uriel/Standing" "confidence" "J" (.long (0 : Int64)) := D1 (Or.inr (hw _ (List.mem_of_getElem? (i := 15) rfl))) (ty := .long) (by decide)
  have F_b0_rung : Fld Z h1 b0 "com/example/uriel/uriel/Standing" "rung" "I" (.int (0 : Int32)) := D1 (Or.inr (hw _ (List.mem_of_getElem? (i := 17) rfl))) (ty := .int) (by decide)
  have F_b0_connections : Fld Z h1 b0 "com/example/uriel/uriel/Standing" "connections" "J" (.long (0 : Int64)) := D1 (Or.inr (hw _ (List.mem_of_getElem? (i := 19) rfl))) (ty := .long) (by decide)
  have F_b0_disconnections : Fld Z h1 b0 "com/example/uriel/uriel/Standing" "disconnections" "J" (.long (0 : Int64)) := D1 (Or.inr (hw _ (List.mem_of_getElem? (i := 21) rfl))) (ty := .long) (by decide)
  have F_b0_maliciousAttempts : Fld Z h1 b0 "com/example/uriel/uriel/Standing" "maliciousAttempts" "J" (.long (0 : Int64)) := D1 (Or.inr (hw _ (List.mem_of_getElem? (i := 23) rfl))) (ty := .long) (by decide)
  have F_b0_idleDisconnections : Fld Z h1 b0 "com/example/uriel/uriel/Standing" "idleDisconnections" "J" (.long (0 : Int64)) := D1 (Or.inr (hw _ (List.mem_of_getElem? (i := 25) rfl))) (ty := .long) (by decide)
  show own_WP p e below _ T1 (mkF m 3 #[.val (.long x0), .second, .val (.long x2), .second, .val (.long x4), .second, .val (.long x6), .second, .val (.int x8), .val (.int x9), .unset, .unset, .unset, .unset, .unset, .unset, .unset, .unset, .unset, .unset, .unset, .unset, .unset, .unset, .unset, .unset, .unset, .unset, .unset] [(.ref b0)])
  refine own_go (fun _ => XS.dup X1.here hx rfl (hb hby at_3) rfl rfl) ?_
  show own_WP p e below _ T1 (mkF m 4 #[.val (.long x0), .second, .val (.long x2), .second, .val (.long x4), .second, .val (.long x6), .second, .val (.int x8), .val (.int x9), .unset, .unset, .unset, .unset, .unset, .unset, .unset, .unset, .unset, .unset, .unset, .unset, .unset, .unset, .unset, .unset, .unset, .unset, .unset] [(.ref b0), (.ref b0)])
  refine own_go (fun _ => XS.lloadN X1.here hx rfl (hb hby at_4) rfl) ?_
  show own_WP p e below _ T1 (mkF m 5 #[.val (.long x0), .second, .val (.long x2), .second, .val (.long x4), .second, .val (.long x6), .second, .val (.int x8), .val (.int x9), .unset, .unset, .unset, .unset, .unset, .unset, .unset, .unset, .unset, .unset, .unset, .unset, .unset, .unset, .unset, .unset, .unset, .unset, .unset] [(.long x0), (.ref b0), (.ref b0)])
  refine own_go (fun _ => XS.iload X1.here hx rfl (hb hby at_5) rfl) ?_
  show own_WP p e below _ T1 (mkF m 7 #[.val (.long x0), .second, .val (.long x2), .second, .val (.long x4), .second, .val (.long x6), .second, .val (.int x8), .val (.int x9), .unset, .unset, .unset, .unset, .unset, .unset, .unset, .unset, .unset, .unset, .unset, .unset, .unset, .unset, .unset, .unset, .unset, .unset, .unset] [(.int x8), (.long x0), (.ref b0), (.ref b0)])
  refine own_go (fun _ => XS.lload X1.here hx rfl (hb hby at_7) rfl) ?_
  show own_WP p e below _ T1 (mkF m 9 #[.val (.long x0), .second, .val (.long x2), .second, .val (.long x4), .second, .val (.long x6), .second, .val (.int x8), .val (.int x9), .unset, .unset, .unset, .unset, .unset, .unset, .unset, .unset, .unset, .unset, .unset, .unset, .unset, .unset, .unset, .unset, .unset, .unset, .unset] [(.long x6), (.int x8), (.long x0), (.ref b0), (.ref b0)])
  refine own_go (fun _ => XS.lload X1.here hx rfl (hb hby at_9) rfl) ?_
  show own_WP p e below _ T1 (mkF m 11 #[.val (.long x0), .second, .val (.long x2), .second, .val (.long x4), .second, .val (.long x6), .second, .val (.int x8), .val (.int x9), .unset, .unset, .unset, .unset, .unset, .unset, .unset, .unset, .unset, .unset, .unset, .unset, .unset, .unset, .unset, .unset, .unset, .unset, .unset] [(.long x4), (.long x6), (.int x8), (.long x0), (.ref b0), (.ref b0)])
  refine own_go (fun _ => XS.lloadN X1.here hx rfl (hb hby at_11) rfl) ?_
  show own_WP p e below _ T1 (mkF m 12 #[.val (.long x0), .second, .val (.long x2), .second, .val (.long x4), .second, .val (.long x6), .second, .val (.int x8), .val (.int x9), .unset, .unset, .unset, .unset, .unset, .unset, .unset, .unset, .unset, .unset, .unset, .unset, .unset, .unset, .unset, .unset, .unset, .unset, .unset] [(.long x2), (.long x4), (.long x6), (.int x8), (.long x0), (.ref b0), (.ref b0)])
  refine own_go (fun _ => XS.lloadN X1.here hx rfl (hb hby at_12) rfl) ?_
  show own_WP p e below _ T1 (mkF m 13 #[.val (.long x0), .second, .val (.long x2), .second, .val (.long x4), .second, .val (.long x6), .second, .val (.int x8), .val (.int x9), .unset, .unset, .unset, .unset, .unset, .unset, .unset, .unset, .unset, .unset, .unset, .unset, .unset, .unset, .unset, .unset, .unset, .unset, .unset] [(.long x2), (.long x2), (.long x4), (.long x6), (.int x8), (.long x0), (.ref b0), (.ref b0)])
  refine own_go (fun _ => XS.lload X1.here hx rfl (hb hby at_13) rfl) ?_
  show own_WP p e below _ T1 (mkF m 15 #[.val (.long x0), .second, .val (.long x2), .second, .val (.long x4), .second, .val (.long x6), .second, .val (.int x8), .val (.int x9), .unset, .unset, .unset, .unset, .unset, .unset, .unset, .unset, .unset, .unset, .unset, .unset, .unset, .unset, .unset, .unset, .unset, .unset, .unset] [(.long x4), (.long x2), (.long x2), (.long x4), (.long x6), (.int x8), (.long x0), (.ref b0), (.ref b0)])
  refine own_go (fun _ => XS.lxor X1.here hx rfl (hb hby at_15) rfl) ?_
  show own_WP p e below _ T1 (mkF m 16 #[.val (.long x0), .second, .val (.long x2), .second, .val (.long x4), .second, .val (.long x6), .second, .val (.int x8), .val (.int x9), .unset, .unset, .unset, .unset, .unset, .unset, .unset, .unset, .unset, .unset, .unset, .unset, .unset, .unset, .unset, .unset, .unset, .unset, .unset] [(.long (x2 ^^^ x4)), (.long x2), (.long x4), (.long x6), (.int x8), (.long x0), (.ref b0), (.ref b0)])
  obtain ⟨rr2, hf2, hv⟩ := own_bind hv
  obtain ⟨T2, v2, L2, X2, ⟨N2, K2, Q2⟩, st2⟩ := own_callN X1 C (a := b0) (argsL := [(.long x0), (.int x8), (.long x6), (.long x4), (.long x2), (.long (x2 ^^^ x4))]) (rm1 l Z a0 hw n0 h1 (by have q := K.1; omega) (by omega) E_b0 F_b0_confidence F_b0_rung F_b0_connections F_b0_disconnections F_b0_maliciousAttempts F_b0_idleDisconnections x0 x8 x6 x4 x2 (x2 ^^^ x4) rr2 hf2) rfl (hw _ (List.mem_of_getElem? (i := 3) rfl)) (hw _ (List.mem_of_getElem? (i := 4) rfl)) (hw _ (List.mem_of_getElem? (i := 2) rfl)) (hw _ (List.mem_of_getElem? (i := 5) rfl)) (by decide) e1 (W := 1) (pc := 16) (Ls := #[.val (.long x0), .second, .val (.long x2), .second, .val (.long x4), .second, .val (.long x6), .second, .val (.int x8), .val (.int x9), .unset, .unset, .unset, .unset, .unset, .unset, .unset, .unset, .unset, .unset, .unset, .unset, .unset, .unset, .unset, .unset, .unset, .unset, .unset]) rfl (lenOf pd1 rfl) (rest := [(.ref b0)]) (stk := [(.long (x2 ^^^ x4)), (.long x2), (.long x4), (.long x6), (.int x8), (.long x0), (.ref b0), (.ref b0)]) rfl (Nat.le_of_ble_eq_true rfl) (hb hby at_16) (by decide) (by decide) (by decide) (by decide)
  replace N := Fr.app N N2
  clear E_b0
  clear F_b0_confidence
  clear F_b0_rung
  clear F_b0_connections
  clear F_b0_disconnections
  clear F_b0_maliciousAttempts
  clear F_b0_idleDisconnections
  obtain ⟨rfl, E_b0, F_b0_confidence, F_b0_rung, F_b0_connections, F_b0_disconnections, F_b0_maliciousAttempts, F_b0_idleDisconnections⟩ := Q2
  replace K := K.trans K2 (allS (Or.inr (by omega)) all0)
  refine own_go st2 ?_
  show own_WP p e below _ T2 (mkF m 19 #[.val (.long x0), .second, .val (.long x2), .second, .val (.long x4), .second, .val (.long x6), .second, .val (.int x8), .val (.int x9), .unset, .unset, .unset, .unset, .unset, .unset, .unset, .unset, .unset, .unset, .unset, .unset, .unset, .unset, .unset, .unset, .unset, .unset, .unset] [(.ref b0)])
  refine own_go (fun _ => XS.astore X2.here hx rfl (hb hby at_19) rfl rfl (l' := #[.val (.long x0), .second, .val (.long x2), .second, .val (.long x4), .second, .val (.long x6), .second, .val (.int x8), .val (.int x9), .val (.ref b0), .unset, .unset, .unset, .unset, .unset, .unset, .unset, .unset, .unset, .unset, .unset, .unset, .unset, .unset, .unset, .unset, .unset, .unset]) rfl) ?_
  show own_WP p e below _ T2 (mkF m 21 #[.val (.long x0), .second, .val (.long x2), .second, .val (.long x4), .second, .val (.long x6), .second, .val (.int x8), .val (.int x9), .val (.ref b0), .unset, .unset, .unset, .unset, .unset, .unset, .unset, .unset, .unset, .unset, .unset, .unset, .unset, .unset, .unset, .unset, .unset, .unset] [])
  refine own_go (fun _ => XS.iload X2.here hx rfl (hb hby at_21) rfl) ?_
  show own_WP p e below _ T2 (mkF m 23 #[.val (.long x0), .second, .val (.long x2), .second, .val (.long x4), .second, .val (.long x6), .second, .val (.int x8), .val (.int x9), .val (.ref b0), .unset, .unset, .unset, .unset, .unset, .unset, .unset, .unset, .unset, .unset, .unset, .unset, .unset, .unset, .unset, .unset, .unset, .unset] [(.int x9)])
  refine own_go (fun _ => XS.iconst X2.here hx rfl (hb hby at_23)) ?_
  show own_WP p e below _ T2 (mkF m 24 #[.val (.long x0), .second, .val (.long x2), .second, .val (.long x4), .second, .val (.long x6), .second, .val (.int x8), .val (.int x9), .val (.ref b0), .unset, .unset, .unset, .unset, .unset, .unset, .unset, .unset, .unset, .unset, .unset, .unset, .unset, .unset, .unset, .unset, .unset, .unset] [(.int (1 : Int32)), (.int x9)])
  refine own_go (fun _ => XS.iand X2.here hx rfl (hb hby at_24) rfl) ?_
  show own_WP p e below _ T2 (mkF m 25 #[.val (.long x0), .second, .val (.long x2), .second, .val (.long x4), .second, .val (.long x6), .second, .val (.int x8), .val (.int x9), .val (.ref b0), .unset, .unset, .unset, .unset, .unset, .unset, .unset, .unset, .unset, .unset, .unset, .unset, .unset, .unset, .unset, .unset, .unset, .unset] [(.int (x9 &&& (1 : Int32)))])
  by_cases h25 : (x9 &&& (1 : Int32)) = (0 : Int32)
  · replace hv := (if_pos h25).symm.trans hv
    refine own_go (fun _ => XS.ifNo X2.here hx rfl (hb hby at_25) rfl (XT.i0_ne_f h25)) ?_
    show own_WP p e below _ T2 (mkF m 28 #[.val (.long x0), .second, .val (.long x2), .second, .val (.long x4), .second, .val (.long x6), .second, .val (.int x8), .val (.int x9), .val (.ref b0), .unset, .unset, .unset, .unset, .unset, .unset, .unset, .unset, .unset, .unset, .unset, .unset, .unset, .unset, .unset, .unset, .unset, .unset] [])
    refine own_go (fun _ => XS.iconst X2.here hx rfl (hb hby at_28)) ?_
    show own_WP p e below _ T2 (mkF m 29 #[.val (.long x0), .second, .val (.long x2), .second, .val (.long x4), .second, .val (.long x6), .second, .val (.int x8), .val (.int x9), .val (.ref b0), .unset, .unset, .unset, .unset, .unset, .unset, .unset, .unset, .unset, .unset, .unset, .unset, .unset, .unset, .unset, .unset, .unset, .unset] [(.int (1 : Int32))])
    refine own_go (fun _ => XS.goto X2.here hx rfl (pc0 := 29) (pc' := 33) rfl (hb hby at_29) (by decide) (by decide)) ?_
    exact b0_33 hw C Z0 rr hP X2 (rfl : T2.heap = T2.heap) N K g_b0 z_b0 E_b0 F_b0_confidence F_b0_rung F_b0_connections F_b0_disconnections F_b0_maliciousAttempts F_b0_idleDisconnections x0 x2 x4 x6 x8 x9 (1 : Int32) hv
  · replace hv := (if_neg h25).symm.trans hv
    refine own_go (fun _ => XS.ifYes X2.here hx rfl (pc0 := 25) (pc' := 32) rfl (hb hby at_25) rfl (XT.i0_ne_t h25) (by decide) (by decide)) ?_
    show own_WP p e below _ T2 (mkF m 32 #[.val (.long x0), .second, .val (.long x2), .second, .val (.long x4), .second, .val (.long x6), .second, .val (.int x8), .val (.int x9), .val (.ref b0), .unset, .unset, .unset, .unset, .unset, .unset, .unset, .unset, .unset, .unset, .unset, .unset, .unset, .unset, .unset, .unset, .unset, .unset] [])
    refine own_go (fun _ => XS.iconst X2.here hx rfl (hb hby at_32)) ?_
    exact b0_33 hw C Z0 rr hP X2 (rfl : T2.heap = T2.heap) N K g_b0 z_b0 E_b0 F_b0_confidence F_b0_rung F_b0_connections F_b0_disconnections F_b0_maliciousAttempts F_b0_idleDisconnections x0 x2 x4 x6 x8 x9 (0 : Int32) hv
theorem ef0 (m : MethodId) (x0 : Int64) (x2 : Int64) (x4 : Int64) (x6 : Int64) (x8 : Int32) (x9 : Int32) : entryFrame m #[(.long x0), (.long x2), (.long x4), (.long x6), (.int x8), (.int x9)] maxLocals = (mkF m 0 #[.val (.long x0), .second, .val (.long x2), .second, .val (.long x4), .second, .val (.long x6), .second, .val (.int x8), .val (.int x9), .unset, .unset, .unset, .unset, .unset, .unset, .unset, .unset, .unset, .unset, .unset, .unset, .unset, .unset, .unset, .unset, .unset, .unset, .unset] []) := by first | (simp [entryFrame, mkF, argsToLocals, Value.category, maxLocals]; done) | rfl
theorem pn0 : plainFor x = true := plainFor_of_name (by first | (simp [plainName, overriddenIn, x]; done) | decide +kernel)
theorem own_or1L (d : Int64) : ¬ (d ||| (1 : Int64)) = 0 := by
  intro h
  have q := congrArg (fun v : Int64 => v.toBitVec.getLsbD 0) h
  simp at q
theorem own_or1 (d : Int32) : ¬ (d ||| (1 : Int32)) = 0 := by
  intro h
  have q := congrArg (fun v : Int32 => v.toBitVec.getLsbD 0) h
  simp at q
theorem own_xorL (a b : Int64) (hb : ¬ b = 0) : ¬ (a ^^^ b) = a := by
  intro h
  apply hb
  have q : a ^^^ (a ^^^ b) = a ^^^ a := by rw [h]
  rw [← Int64.xor_assoc, Int64.xor_self, Int64.zero_xor] at q
  exact q
theorem own_xor (a b : Int32) (hb : ¬ b = 0) : ¬ (a ^^^ b) = a := by
  intro h
  apply hb
  have q : a ^^^ (a ^^^ b) = a ^^^ a := by rw [h]
  rw [← Int32.xor_assoc, Int32.xor_self, Int32.zero_xor] at q
  exact q
theorem own_202 (cb : Int64) (rb x11 x12 x13 x14 : Int32) (conf : Int64) (rung : Int32) (mal idle con dis : Int64)
    (h11 : x11 = if conf = cb then 1 else 0) (h12 : x12 = if rung = rb then 1 else 0) (h13 : x13 = if mal = 0 then 1 else 0) (h14 : x14 = if idle = 0 then 1 else 0)
    (hf : (dis < con → ¬ con = dis + 1 → 1 < con - dis) ∧ (¬ dis < con → ¬ 1 < con - dis) ∧ (dis < con → con = dis + 1 → ¬ 1 < con - dis)) : f0_202 cb rb x11 x12 x13 x14 conf rung mal idle con dis = some 1 := by
  obtain ⟨k1, k2, k3⟩ := hf
  subst h11 h12 h13 h14
  unfold f0_202 f0_241 f0_246 f0_277 f0_278 f4_0 f1_0 f2_0
  simp only [Option.bind_some]
  by_cases p1 : conf = cb <;> by_cases p2 : rung = rb <;> by_cases p3 : mal = 0 <;> by_cases p4 : idle = 0 <;> by_cases p5 : dis < con <;> by_cases p6 : con = dis + 1 <;> by_cases p7 : 1 < con - dis
  all_goals first | (exfalso; first | exact k2 p5 p7 | exact k3 p5 p6 p7 | exact p7 (k1 p5 p6); done) | (subst p6; simp [p1, p2, p3, p4, p5, p7]; done) | (simp [p1, p2, p3, p4, p5, p6, p7]; done)
theorem own_few (con dis : Int64) (h1 : 0 ≤ con.toInt) (h2 : 0 ≤ dis.toInt) : (dis < con → ¬ con = dis + 1 → 1 < con - dis) ∧ (¬ dis < con → ¬ 1 < con - dis) ∧ (dis < con → con = dis + 1 → ¬ 1 < con - dis) := by
  have a := c_ladd dis 1
  have b := c_lsub con dis
  have r0 := rng64 con
  have r1 := rng64 dis
  have r2 := rng64 (dis + 1)
  have r3 := rng64 (con - dis)
  have q1 : (1 : Int64).toInt = 1 := rfl
  rw [q1] at a
  simp only [Int64.lt_iff_toInt_lt, ← Int64.toInt_inj, q1]
  refine ⟨fun u v => ?_, fun u => ?_, fun u v => ?_⟩ <;> omega
theorem own_nnL (x : Int64) : 0 ≤ (x &&& (9223372036854775807 : Int64)).toInt ∧ (x &&& (9223372036854775807 : Int64)).toInt < 9223372036854775808 := by
  have q := c_maskL x 9223372036854775807 63 (by decide) (by decide +kernel)
  omega
theorem own_ushrL (m : Int64) (k : Int32) (n : Nat) (hk : ((k.toInt64.toUInt64 &&& Int64.toUInt64 63).toBitVec % 64).toNat = n) : (XT.ushrL m k).toBitVec = m.toBitVec >>> n := by
  show m.toUInt64.toBitVec >>> ((k.toInt64.toUInt64 &&& Int64.toUInt64 63).toBitVec % 64) = _
  rw [BitVec.ushiftRight_eq', hk]; rfl
theorem own_halfL (x : Int64) : 0 ≤ (XT.ushrL x (1 : Int32)).toInt ∧ ((0 ≤ x.toInt) → (XT.ushrL x (1 : Int32)).toInt < 4611686018427387904) := by
  have i : (XT.ushrL x (1 : Int32)).toInt = (XT.ushrL x (1 : Int32)).toBitVec.toInt := rfl
  have i2 : x.toInt = x.toBitVec.toInt := rfl
  have b := x.toBitVec.isLt
  rw [i, i2, own_ushrL x 1 1 (by decide +kernel), BitVec.toInt_eq_toNat_cond, BitVec.toInt_eq_toNat_cond, BitVec.toNat_ushiftRight, Nat.shiftRight_eq_div_pow]
  refine ⟨?_, fun h => ?_⟩
  · split <;> omega
  · split at h <;> split <;> omega
theorem own_147 (cb : Int64) (rb : Int32) (x4 x6 : Int64) (x9 x11 x12 x13 x14 : Int32) (conf : Int64) (rung : Int32) (mal idle : Int64)
    (h11 : x11 = if conf = cb then 1 else 0) (h12 : x12 = if rung = rb then 1 else 0) (h13 : x13 = if mal = 0 then 1 else 0) (h14 : x14 = if idle = 0 then 1 else 0) : f0_147 cb rb x4 x6 x9 x11 x12 x13 x14 conf rung mal idle = some 1 := by
  unfold f0_147
  split
  · exact own_202 _ _ _ _ _ _ _ _ _ _ _ _ h11 h12 h13 h14 (own_few _ _ (own_nnL x4).1 (own_nnL x6).1)
  · unfold own_let
    dsimp only
    have k1 := own_nnL x6
    have k2 := own_halfL (x6 &&& (9223372036854775807 : Int64))
    generalize XT.ushrL (x6 &&& (9223372036854775807 : Int64)) (1 : Int32) = u at *
    have k3 := c_mask (XT.ushr x9 (5 : Int32)) 3 2 (by decide) (by decide +kernel)
    generalize XT.ushr x9 (5 : Int32) &&& (3 : Int32) = w at *
    have k4 := c_isub w 1
    have r4 := rng32 (w - 1)
    have k5 := c_i2l (w - 1)
    have k6 := c_ladd u 1
    have r6 := rng64 (u + 1)
    have k7 := c_ladd (u + 1) (w - 1).toInt64
    have r7 := rng64 (u + 1 + (w - 1).toInt64)
    have q1 : (1 : Int64).toInt = 1 := rfl
    have q1' : (1 : Int32).toInt = 1 := rfl
    have k8 := k2.2 k1.1
    refine own_202 _ _ _ _ _ _ _ _ _ _ _ _ h11 h12 h13 h14 (own_few _ _ ?_ ?_) <;> omega
theorem own_76 (x0 : Int64) (x8 : Int32) (x2 x4 x6 : Int64) (x9 x11 x12 x13 x14 : Int32) (h11 : x11 = 0 ∨ x11 = 1) (h12 : x12 = 0 ∨ x12 = 1) (h13 : x13 = 0 ∨ x13 = 1) (h14 : x14 = 0 ∨ x14 = 1) : f0_76 x0 x8 x0 x2 x4 x6 x8 x9 x11 x12 x13 x14 = some 1 := by
  have n1 := own_xorL x0 _ (own_or1L x2)
  have n2 := own_xor x8 _ (own_or1 (XT.ushr x9 (8 : Int32)))
  have n3 := own_or1L (XT.ushrL x2 (1 : Int32))
  have n4 := own_or1L (XT.ushrL x6 (2 : Int32))
  unfold f0_76 f0_92 f0_114 f0_130
  rcases h11 with rfl | rfl <;> rcases h12 with rfl | rfl <;> rcases h13 with rfl | rfl <;> rcases h14 with rfl | rfl
  all_goals
    simp only [if_true, (by decide : ¬ (1 : Int32) = 0), if_false]
    apply own_147
    all_goals first | (rw [if_pos rfl]) | (rw [if_neg n1]) | (rw [if_neg n2]) | (rw [if_neg n3]) | (rw [if_neg n4])
theorem plain0 (x0 x2 x4 x6 : Int64) (x8 x9 : Int32) : f0_0 x0 x2 x4 x6 x8 x9 = some 1 := by
  unfold f0_0 f1_0 f2_0 f0_33 f0_47 f0_61
  simp only [Option.bind_some]
  repeat' split
  all_goals exact own_76 _ _ _ _ _ _ _ _ _ _ (by first | exact Or.inl rfl | exact Or.inr rfl) (by first | exact Or.inl rfl | exact Or.inr rfl) (by first | exact Or.inl rfl | exact Or.inr rfl) (by first | exact Or.inl rfl | exact Or.inr rfl)
theorem rm0 (l : Launch) (Z : State) (a0 : Array Value) (hw : ∀ d ∈ tables_1, d.before a0 Z = true) (ws : List Jvm.Cond) (x0 : Int64) (x2 : Int64) (x4 : Int64) (x6 : Int64) (x8 : Int32) (x9 : Int32) (h0 : Heap) : own_Met l Z x code maxLocals ret ws room_1 #[(.long x0), (.long x2), (.long x4), (.long x6), (.int x8), (.int x9)] h0 (fun v h L => v = some (.int 1) ∧ Fr h0.size L) := by
  refine own_body pn0 ?_
  intro p e s m below meth c s₁ C X e0
  exact own_cast (ef0 m x0 x2 x4 x6 x8 x9) (b0_0 hw C (Nat.le_refl h0.size) (1 : Int32) (fun v h L a b c => ⟨c, a⟩) X e0 (Fr.nil _) (Keep.refl h0 []) x0 x2 x4 x6 x8 x9 (plain0 x0 x2 x4 x6 x8 x9))
set_option maxRecDepth 65536 in
set_option maxHeartbeats 40000000 in
theorem comes_1 {Post : Tables → Env → Array Value → State → Outcome → State → Prop} (hpost : ∀ tb e args s v u, (limb_1_1.after args s (.returned v) u = true ∧ limb_1_2.after args s (.returned v) u = true ∧ True) → FrameEnd s (.returned v) u (Jvm.fieldLocs frame_1_writes args s ++ Jvm.arrayLocs frame_1_arrays args s ++ Jvm.staticLocs frame_1_statics s) 16 128 → Post tb e args s (.returned v) u) :
    ArmFor flags0 classFile x code maxLocals ret World_1 tables_1 room_1 Calls_1 rest_1 Pre_1 Post := by
  intro l hfl _ _ p e ha hc hk s m args below hf hA hF happ hP
  obtain ⟨hcalls, hrest, hpre⟩ := hP
  obtain ⟨-, -, -, hnamed, -, -, -, hat⟩ := (Spec.applies_iff hf).mp happ
  obtain ⟨hg, hn⟩ := and_e (Cond.before_iff.mp (show (Jvm.Cond.and given_1 narrow_1).before args s = true from hpre))
  obtain ⟨hcnt, hg0⟩ := and_e hg
  obtain ⟨ha0, hg1⟩ := and_e hg0
  obtain ⟨ha1, hg2⟩ := and_e hg1
  obtain ⟨ha2, hg3⟩ := and_e hg2
  obtain ⟨ha3, hg4⟩ := and_e hg3
  obtain ⟨ha4, hg5⟩ := and_e hg4
  have ha5 := hg5
  obtain ⟨w0, w1, w2, w3, w4, w5, rfl⟩ : ∃ w0 w1 w2 w3 w4 w5 : Value, args = #[w0, w1, w2, w3, w4, w5] := by
    have hs : args.size = 6 := by simpa [Cond.value, given_1] using hcnt
    obtain ⟨L⟩ := args
    match L, hs with
    | [w0, w1, w2, w3, w4, w5], _ => exact ⟨w0, w1, w2, w3, w4, w5, rfl⟩
  have hw := fun d (hd : d ∈ tables_1) => atoms_spec (ws := Jvm.Cond.code x code maxLocals ret :: tables_1) hat d (List.mem_cons_of_mem _ hd)
  obtain ⟨i0, ei0⟩ := isL_v ha0
  obtain rfl : w0 = (.long i0) := Option.some.inj ei0
  obtain ⟨i1, ei1⟩ := isL_v ha1
  obtain rfl : w1 = (.long i1) := Option.some.inj ei1
  obtain ⟨i2, ei2⟩ := isL_v ha2
  obtain rfl : w2 = (.long i2) := Option.some.inj ei2
  obtain ⟨i3, ei3⟩ := isL_v ha3
  obtain rfl : w3 = (.long i3) := Option.some.inj ei3
  obtain ⟨i4, ei4⟩ := is_v ha4
  obtain rfl : w4 = (.int i4) := Option.some.inj ei4
  obtain ⟨i5, ei5⟩ := is_v ha5
  obtain rfl : w5 = (.int i5) := Option.some.inj ei5
  obtain ⟨n, o, h1, h2, h3, _, L, rfl, ⟨rfl, N⟩, hq⟩ := rm0 l s _ hw tables_1 i0 i1 i2 i3 i4 i5 s.heap p e ha hc hk s m _ below hf ((Spec.applies_iff_loose hf).mp happ).1 ⟨rfl, State.Warmed39.refl s, rfl⟩ trivial
  refine ⟨n, _, h1, h2, h3, hpost _ _ _ _ _ _ ⟨Cond.after_iff.mpr rfl, Cond.after_iff.mpr (eq_i res_at (Term.int_eval (1)) rfl), trivial⟩ ⟨hq.1, hq.2.1, (hq.2.2.sift fun y hy => Or.inr (N y hy)).mono (by decide) (by decide)⟩⟩
theorem main_1_1 : Claimed_1_1 := comes_1 fun _ _ _ _ _ _ h hF => ⟨h.1, hF⟩
theorem main_1_2 : Claimed_1_2 := comes_1 fun _ _ _ _ _ _ h hF => ⟨h.2.1, hF⟩
end Jvm.Pilot.@@N@@
namespace Jvm.Pilot.@@N@@
open Jvm Jvm.ClassFile Sem Op Lib Jvm.Free Jvm.Stand Jvm.Pilot.@@N@@.Jvm.D
/-! MADE BY PROGRAM (witnessworld.py) out of the Statement's table words and the real class files: 10 classes; the members and pool entries that the words name. The judged class is class 1, her method 1. -/
namespace start1
open Jvm.ClassFile
def u (s : String) : CpInfo := .utf8 (stringToUtf16 s)
/-- a pool by its gaps: so many unusable entries, then the entry; so many at the end -/
def gap : Nat → List CpInfo → List CpInfo
  | 0, r => r
  | n + 1, r => .unusable :: gap n r
def poolList (es : List (Nat × CpInfo)) (last : Nat) : List CpInfo := es.foldr (fun e r => gap e.1 (e.2 :: r)) (gap last [])
def pool (es : List (Nat × CpInfo)) (last : Nat) : Array CpInfo := ⟨poolList es last⟩
def fileOf (pool : Array CpInfo) (this : Nat) (attrs : Array Attribute := #[]) (ms : Array MethodInfo := #[]) (fl : Nat := 33) (sup : Nat := 0) (ifs : Array Nat := #[]) (fds : Array FieldInfo := #[]) : ClassFile where
  minorVersion := 0
  majorVersion := 65
  constantPool := pool
  accessFlags := fl
  thisClass := this
  superClass := sup
  interfaces := ifs
  fields := fds
  methods := ms
  attributes := attrs
def plain (name : String) (sup : Option ClassId) : Class where
  name := name
  kind := .ordinary
  loader := none
  accessFlags := 33
  super := sup
  interfaces := #[]
  cf := none
  fields := #[]
  methods := #[]
  instanceTypes := #[]
  staticTypes := #[]
  resolved := #[]
  callSites := []
  init := .initialized
  statics := none
  mirror := none

def pool0 : Array CpInfo := pool [(5, u "<init>"), (0, u "()V"), (1, .class_ 10), (1, u "java/lang/Object")] 113

def k0c0 : Code := { maxStack := 0, maxLocals := 1, code := object_method_1_code, exceptionTable := #[], attributes := #[] }
def k0m0 : Method := { name := "<init>", desc := "()V", sig := { parameters := [], returnType := none }, accessFlags := 1, code := some k0c0 }
/-- java/lang/Object -/
def k0 : Class := { plain "java/lang/Object" none with
  accessFlags := 33
  interfaces := #[]
  cf := some (fileOf pool0 8 #[] #[{ accessFlags := 1, nameIndex := 5, descriptorIndex := 6, attributes := #[] }] 33 0 #[] #[])
  fields := #[]
  methods := #[k0m0]
  instanceTypes := #[]
  staticTypes := #[]
  resolved := Array.replicate 124 none
  statics := none }

def pool1 : Array CpInfo := pool [(2, .class_ 4), (1, u "java/lang/Object"), (0, u "<init>"), (0, u "()V"), (0, .class_ 8), (0, u "com/example/uriel/uriel/Standing"), (0, .methodref 7 10), (0, .nameAndType 5 11), (0, u "(JIJJJJ)V"), (2, .long 9223372036854775807), (1, .methodref 7 17), (0, .nameAndType 18 19), (0, u "asStarted"), (0, u "(Lcom/example/uriel/uriel/Standing;)Z"), (0, .class_ 21), (0, u "com/example/uriel/uriel/StandingAsStartedPinLaw"), (2, u "law"), (0, u "(JJJJII)Z")] 3

def k1m0 : Method := { name := "<init>", desc := "()V", sig := { parameters := [], returnType := none }, accessFlags := 1, code := none }
def k1c1 : Code := { maxStack := 15, maxLocals := 29, code := code, exceptionTable := #[], attributes := #[] }
def k1m1 : Method := { name := "law", desc := "(JJJJII)Z", sig := { parameters := [.long, .long, .long, .long, .int, .int], returnType := some .boolean }, accessFlags := 9, code := some k1c1 }
/-- com/example/uriel/uriel/StandingAsStartedPinLaw -/
def k1 : Class := { plain "com/example/uriel/uriel/StandingAsStartedPinLaw" (some 0) with
  accessFlags := 49
  interfaces := #[]
  cf := some (fileOf pool1 20 #[] #[{ accessFlags := 1, nameIndex := 5, descriptorIndex := 6, attributes := #[] }, { accessFlags := 9, nameIndex := 24, descriptorIndex := 25, attributes := #[] }] 49 2 #[] #[])
  fields := #[]
  methods := #[k1m0, k1m1]
  instanceTypes := #[]
  staticTypes := #[]
  resolved := Array.replicate 29 none
  statics := none }

def pool2 : Array CpInfo := pool [(1, .methodref 2 3), (0, .class_ 4), (0, .nameAndType 5 6), (0, u "java/lang/Object"), (0, u "<init>"), (0, u "()V"), (0, .class_ 8), (0, u "java/lang/Record")] 13

def k2c0 : Code := { maxStack := 1, maxLocals := 1, code := jdk_30_method_1_code, exceptionTable := #[], attributes := #[] }
def k2m0 : Method := { name := "<init>", desc := "()V", sig := { parameters := [], returnType := none }, accessFlags := 4, code := some k2c0 }
/-- java/lang/Record -/
def k2 : Class := { plain "java/lang/Record" (some 0) with
  accessFlags := 1057
  interfaces := #[]
  cf := some (fileOf pool2 7 #[] #[{ accessFlags := 4, nameIndex := 5, descriptorIndex := 6, attributes := #[] }] 1057 2 #[] #[])
  fields := #[]
  methods := #[k2m0]
  instanceTypes := #[]
  staticTypes := #[]
  resolved := Array.replicate 22 none
  statics := none }

def pool3 : Array CpInfo := pool [(1, .methodref 2 3), (0, .class_ 4), (0, .nameAndType 5 6), (0, u "java/lang/Record"), (0, u "<init>"), (0, u "()V"), (0, .fieldref 8 9), (0, .class_ 10), (0, .nameAndType 11 12), (0, u "com/example/uriel/uriel/Standing"), (0, u "confidence"), (0, u "J"), (0, .fieldref 8 14), (0, .nameAndType 15 16), (0, u "rung"), (0, u "I"), (0, .fieldref 8 18), (0, .nameAndType 19 12), (0, u "connections"), (0, .fieldref 8 21), (0, .nameAndType 22 12), (0, u "disconnections"), (0, .fieldref 8 24), (0, .nameAndType 25 12), (0, u "maliciousAttempts"), (0, .fieldref 8 27), (0, .nameAndType 28 12), (0, u "idleDisconnections"), (2, u "(JIJJJJ)V"), (40, .class_ 74), (1, u "com/example/uriel/uriel/Standing$1"), (51, u "asStarted"), (0, u "(Lcom/example/uriel/uriel/Standing;)Z")] 43

def k3c0 : Code := { maxStack := 3, maxLocals := 12, code := prog_16_method_1_code, exceptionTable := #[], attributes := #[] }
def k3m0 : Method := { name := "<init>", desc := "(JIJJJJ)V", sig := { parameters := [.long, .int, .long, .long, .long, .long], returnType := none }, accessFlags := 1, code := some k3c0 }
def k3c1 : Code := { maxStack := 4, maxLocals := 2, code := prog_16_method_5_code, exceptionTable := #[], attributes := #[] }
def k3m1 : Method := { name := "asStarted", desc := "(Lcom/example/uriel/uriel/Standing;)Z", sig := { parameters := [(.object "com/example/uriel/uriel/Standing")], returnType := some .boolean }, accessFlags := 0, code := some k3c1 }
/-- com/example/uriel/uriel/Standing -/
def k3 : Class := { plain "com/example/uriel/uriel/Standing" (some 2) with
  accessFlags := 49
  interfaces := #[]
  cf := some (fileOf pool3 8 #[.nestMembers #[72]] #[{ accessFlags := 1, nameIndex := 5, descriptorIndex := 31, attributes := #[] }, { accessFlags := 0, nameIndex := 126, descriptorIndex := 127, attributes := #[] }] 49 2 #[] #[{ accessFlags := 18, nameIndex := 11, descriptorIndex := 12, attributes := #[] }, { accessFlags := 18, nameIndex := 15, descriptorIndex := 16, attributes := #[] }, { accessFlags := 18, nameIndex := 19, descriptorIndex := 12, attributes := #[] }, { accessFlags := 18, nameIndex := 22, descriptorIndex := 12, attributes := #[] }, { accessFlags := 18, nameIndex := 25, descriptorIndex := 12, attributes := #[] }, { accessFlags := 18, nameIndex := 28, descriptorIndex := 12, attributes := #[] }])
  fields := #[{ name := "confidence", type := .long, accessFlags := 18, slot := 0, constantValue := 0 }, { name := "rung", type := .int, accessFlags := 18, slot := 1, constantValue := 0 }, { name := "connections", type := .long, accessFlags := 18, slot := 2, constantValue := 0 }, { name := "disconnections", type := .long, accessFlags := 18, slot := 3, constantValue := 0 }, { name := "maliciousAttempts", type := .long, accessFlags := 18, slot := 4, constantValue := 0 }, { name := "idleDisconnections", type := .long, accessFlags := 18, slot := 5, constantValue := 0 }]
  methods := #[k3m0, k3m1]
  instanceTypes := #[.long, .int, .long, .long, .long, .long]
  staticTypes := #[]
  resolved := Array.replicate 171 none
  statics := none }

def pool4 : Array CpInfo := pool [(1, u "java/lang/Cloneable"), (0, .class_ 1), (0, u "java/lang/Object"), (0, .class_ 3)] 3

/-- java/lang/Cloneable -/
def k4 : Class := { plain "java/lang/Cloneable" (some 0) with
  accessFlags := 1537
  interfaces := #[]
  cf := some (fileOf pool4 2 #[] #[] 1537 4 #[] #[])
  fields := #[]
  methods := #[]
  instanceTypes := #[]
  staticTypes := #[]
  resolved := Array.replicate 8 none
  statics := none }

def pool5 : Array CpInfo := pool [(1, u "java/io/Serializable"), (0, .class_ 1), (0, u "java/lang/Object"), (0, .class_ 3)] 3

/-- java/io/Serializable -/
def k5 : Class := { plain "java/io/Serializable" (some 0) with
  accessFlags := 1537
  interfaces := #[]
  cf := some (fileOf pool5 2 #[] #[] 1537 4 #[] #[])
  fields := #[]
  methods := #[]
  instanceTypes := #[]
  staticTypes := #[]
  resolved := Array.replicate 8 none
  statics := none }

/-- the primitive byte -/
def k6 : Class := { plain "byte" none with kind := .primitive 'B', accessFlags := 0x411 }
/-- [B -/
def k7 : Class := { plain "[B" (some 0) with kind := .array 6 .byte, interfaces := #[4, 5], accessFlags := 1041 }

/-- the primitive int -/
def k8 : Class := { plain "int" none with kind := .primitive 'I', accessFlags := 0x411 }
/-- [I -/
def k9 : Class := { plain "[I" (some 0) with kind := .array 8 .int, interfaces := #[4, 5], accessFlags := 1041 }

def heap : Heap := #[]
def classes : Array Class := #[k0, k1, k2, k3, k4, k5, k6, k7, k8, k9]
def interned : List (Array UInt16 × Addr) := []
def slotsUsed : Nat := 0
def theMethod : MethodId := ⟨1, 1⟩
def args0 : Array Value := #[.long 5, .long 5, .long 5, .long 5, .int 5, .int 5]
def aboutOver (below : List Frame) : State where
  vm := { classes := classes, interned := interned.toArray }
  heap := heap
  slotsUsed := slotsUsed
  threads := #[{ frames := .invoking theMethod args0 :: below }]
def below0 : List Frame := [.native { method := ⟨0, 0⟩, args := #[] }]
def about1 : State := aboutOver below0
def p0 : Program := .bare "" "" ""
def e0 : Env := launch0.env 0 0 0
theorem w_frames : about1.frames = Frame.invoking theMethod args0 :: below0 := rfl
set_option maxRecDepth 65536 in
theorem w_args : argsFit about1.vm theMethod args0 = true := by decide +kernel
set_option maxRecDepth 65536 in
theorem w_heap : heapFits about1 = true := by decide +kernel
set_option maxRecDepth 65536 in
theorem w_runnable : about1.curStatus? = some .runnable := by decide +kernel
set_option maxRecDepth 65536 in
theorem w_alone : about1.alone = true := by decide +kernel
set_option maxRecDepth 65536 in
theorem w_named : about1.methodNamed? x = some theMethod := by decide +kernel
set_option maxRecDepth 65536 in
theorem w_hears : about1.hears theMethod below0 = true := by decide +kernel
set_option maxRecDepth 65536 in
theorem w_ripe : about1.ripe theMethod args0 below0 = true := by decide +kernel
theorem w_running : about1.status = .running := rfl
set_option maxRecDepth 65536 in
theorem w_room : about1.hasRoom e0.platform room_1 = true :=
  launch0.hasRoom_least _ room_1 (by decide +kernel) (by decide +kernel) (by decide +kernel) (by decide +kernel) (by decide +kernel) (by decide +kernel)
theorem allAtoms_all (ts : List Jvm.Cond) (a : Array Jvm.Value) (st : Jvm.State) : (allAtoms ts).before a st = ts.all (fun c => c.before a st) := by
  induction ts with
  | nil => rfl
  | cons c t ih =>
    show (Jvm.Cond.and c (allAtoms t)).before a st = _
    rw [Jvm.Cond.before_and, ih, List.all_cons]
def words1 : List Jvm.Cond := Jvm.Cond.code x code maxLocals ret :: tables_1
/-- a 'code' word, met by the world's own term for the bytes: nothing is compared byte by byte -/
theorem code_word {y : MethodName} {bytes : ByteArray} {mx : Nat} {rt : Option FieldType} {a : Array Value} {s : State} {m : MethodId} {meth : Method} {c : Code} (h1 : s.methodNamed? y = some m) (h2 : s.vm.method? m = some meth) (h3 : meth.code = some c) (h4 : c.code = bytes)
    (h5 : (c.maxLocals == mx && c.exceptionTable.isEmpty && decide (c.maxStack ≤ mostOperands) && decide (meth.sig.returnType = rt) && !meth.locks && decide (parseMethodDescriptor y.desc = some meth.sig)) = true) : (Jvm.Cond.code y bytes mx rt).before a s = true := by
  simp only [Bool.and_eq_true, beq_iff_eq, Bool.not_eq_true', decide_eq_true_eq] at h5
  obtain ⟨⟨⟨⟨⟨g1, g2⟩, g3⟩, g4⟩, g5⟩, g6⟩ := h5
  simp [Cond.before, Cond.holds, Cond.value, h1, h2, h3, h4, g1, g2, g3, g4, g5, g6]
def isCode : Jvm.Cond → Bool
  | .code _ _ _ _ => true
  | _ => false
theorem all_split {L : List Jvm.Cond} {P : Jvm.Cond → Bool} (h1 : L.all (fun c => isCode c || P c) = true) (h2 : ∀ c ∈ L.filter isCode, P c = true) : L.all P = true := by
  refine List.all_eq_true.mpr fun c hc => ?_
  have h := List.all_eq_true.mp h1 c hc
  rcases Bool.eq_false_or_eq_true (isCode c) with hi | hi
  · exact h2 c (List.mem_filter.mpr ⟨hc, hi⟩)
  · simpa [hi] using h
set_option maxRecDepth 65536 in
theorem w_c0 : (Jvm.Cond.code x code maxLocals ret).before args0 about1 = true := code_word (m := ⟨1, 1⟩) (meth := k1m1) (c := k1c1) (by decide +kernel) rfl rfl rfl (by decide +kernel)
set_option maxRecDepth 65536 in
theorem w_c1 : (Jvm.Cond.code ({ cls := "com/example/uriel/uriel/Standing", name := "<init>", desc := "(JIJJJJ)V" } : Jvm.MethodName) prog_16_method_1_code (12 : Nat) (Option.none : Option Jvm.ClassFile.FieldType)).before args0 about1 = true := code_word (m := ⟨3, 0⟩) (meth := k3m0) (c := k3c0) (by decide +kernel) rfl rfl rfl (by decide +kernel)
set_option maxRecDepth 65536 in
theorem w_c2 : (Jvm.Cond.code ({ cls := "java/lang/Record", name := "<init>", desc := "()V" } : Jvm.MethodName) jdk_30_method_1_code (1 : Nat) (Option.none : Option Jvm.ClassFile.FieldType)).before args0 about1 = true := code_word (m := ⟨2, 0⟩) (meth := k2m0) (c := k2c0) (by decide +kernel) rfl rfl rfl (by decide +kernel)
set_option maxRecDepth 65536 in
theorem w_c3 : (Jvm.Cond.code ({ cls := "java/lang/Object", name := "<init>", desc := "()V" } : Jvm.MethodName) object_method_1_code (1 : Nat) (Option.none : Option Jvm.ClassFile.FieldType)).before args0 about1 = true := code_word (m := ⟨0, 0⟩) (meth := k0m0) (c := k0c0) (by decide +kernel) rfl rfl rfl (by decide +kernel)
set_option maxRecDepth 65536 in
theorem w_c4 : (Jvm.Cond.code ({ cls := "com/example/uriel/uriel/Standing", name := "asStarted", desc := "(Lcom/example/uriel/uriel/Standing;)Z" } : Jvm.MethodName) prog_16_method_5_code (2 : Nat) (Option.some Jvm.ClassFile.FieldType.boolean)).before args0 about1 = true := code_word (m := ⟨3, 1⟩) (meth := k3m1) (c := k3c1) (by decide +kernel) rfl rfl rfl (by decide +kernel)
def codes1 : List Jvm.Cond := [Jvm.Cond.code x code maxLocals ret, Jvm.Cond.code ({ cls := "com/example/uriel/uriel/Standing", name := "<init>", desc := "(JIJJJJ)V" } : Jvm.MethodName) prog_16_method_1_code (12 : Nat) (Option.none : Option Jvm.ClassFile.FieldType), Jvm.Cond.code ({ cls := "java/lang/Record", name := "<init>", desc := "()V" } : Jvm.MethodName) jdk_30_method_1_code (1 : Nat) (Option.none : Option Jvm.ClassFile.FieldType), Jvm.Cond.code ({ cls := "java/lang/Object", name := "<init>", desc := "()V" } : Jvm.MethodName) object_method_1_code (1 : Nat) (Option.none : Option Jvm.ClassFile.FieldType), Jvm.Cond.code ({ cls := "com/example/uriel/uriel/Standing", name := "asStarted", desc := "(Lcom/example/uriel/uriel/Standing;)Z" } : Jvm.MethodName) prog_16_method_5_code (2 : Nat) (Option.some Jvm.ClassFile.FieldType.boolean)]
set_option maxRecDepth 65536 in
theorem codes_eq : words1.filter isCode = codes1 := rfl
theorem w_codes : ∀ c ∈ words1.filter isCode, c.before args0 about1 = true := by
  rw [codes_eq]
  intro c hc
  simp only [codes1, List.mem_cons, List.not_mem_nil, or_false] at hc
  rcases hc with rfl | rfl | rfl | rfl | rfl
  · exact w_c0
  · exact w_c1
  · exact w_c2
  · exact w_c3
  · exact w_c4
set_option maxRecDepth 65536 in
theorem w_t1 : (words1.take 24).all (fun c => isCode c || c.before args0 about1) = true := by decide +kernel
set_option maxRecDepth 65536 in
theorem w_t2 : (words1.drop 24).all (fun c => isCode c || c.before args0 about1) = true := by decide +kernel
theorem w_tables : (allAtoms (Jvm.Cond.code x code maxLocals ret :: tables_1)).before args0 about1 = true := by
  rw [allAtoms_all]
  show words1.all (fun c => c.before args0 about1) = true
  refine all_split ?_ w_codes
  rw [← List.take_append_drop 24 words1, List.all_append, w_t1, w_t2]
  rfl
set_option maxRecDepth 65536 in
theorem w_case : (Jvm.Cond.and given_1 narrow_1).before args0 about1 = true := by decide +kernel
theorem w_applies : (headSpec (Jvm.Cond.code x code maxLocals ret :: tables_1) room_1).applies x e0.platform about1 = true :=
  (Spec.applies_iff w_frames).mpr ⟨w_running, w_runnable, w_alone, w_named, w_hears, w_ripe, w_room, w_tables⟩
theorem atStart : AtStart classFile x code maxLocals ret World_1 tables_1 room_1 Calls_1 rest_1 Pre_1 launch0 p0 e0 about1 theMethod args0 below0 :=
  ⟨lists_1, trivial, launch0.admits_env _ _ _, launch0.least_env, fairChoices_fair.cas, fairChoices_fair.clock, w_frames, w_args, w_heap, w_applies, trivial, trivial, w_case⟩
end start1
theorem witness_1 : WitnessClaimed_1 := ⟨start1.p0, start1.e0, start1.about1, start1.theMethod, start1.args0, start1.below0, start1.atStart⟩
end Jvm.Pilot.@@N@@
