import JvmDerived
import JvmDerived.Pilot.@@N@@Statement
import JvmDerived.Pilot.@@N@@Code
set_option linter.unusedVariables false
set_option linter.unusedSimpArgs false
namespace Jvm.RoadKit
open Sem ClassFile Op Lib Jvm.Stand Jvm.Free Jvm.LawKit
section New
variable {p : Program} {l : Launch} {e : Env} {R : Room} {s : State} {m : MethodId} {args : Array Value} {below : List Frame} {meth : Method} {c : Code} {T : State} {locs : List Loc} {cells slots : Nat}
theorem retI (X : Stand p l e R s m args below meth c T locs cells slots) (hx : p.tables.exec = Jvm.exec) {pc : Nat} {Ls : Array Slot} {z : Int32} {rest : List Value} (hret : meth.sig.returnType = some .int) (hd : decode c.code pc = .ok (.ireturn, 1)) {fs : List Frame}
    (hl : ∀ (f : JFrame) (acts : List Action), f.method = m → f.locked = none → f.entered = [] → (doReturn e (T.setTop f) acts (some (.int z))).1 = T.setFrames fs) : Steps p.tables e below (T.setTop (mkF m pc Ls (.int z :: rest))) (T.setFrames fs) := by
  have hm' : T.vm.method? m = some meth := X.method'
  have hn : narrow .int (.int z) = .int z := rfl
  show Steps p.tables e below (T.setTop { method := m, pc := pc, locals := Ls, stack := _ :: rest, locked := none }) _
  jvm_step X.here [X.here.top, hx, hd, hm', hret, hn]
  first | (intro acts; rw [hl _ acts rfl rfl rfl]) | rw [hl _ _ rfl rfl rfl]
  exact Steps.refl _
end New
end Jvm.RoadKit
namespace Jvm.Pilot.@@N@@
open Jvm Jvm.ClassFile Sem Op Lib Jvm.Free Jvm.Stand Jvm.LawKit Jvm.RoadKit Bundle Jvm.Pilot.@@N@@.Jvm.D
/-- what is still to come: from the frame g at T the run comes to an end that Q takes -/
def own_WP (p : Program) (e : Env) (below : List Frame) (Q : Outcome → State → Prop) (T : State) (g : JFrame) : Prop :=
  ∃ s₂ o, Steps p.tables e below (T.setTop g) s₂ ∧ s₂.status = .running ∧ Ended s₂ below o ∧ Q o s₂
def own_Q (s : State) (P : Option Value → Heap → List Loc → Prop) (C S : Nat) (o : Outcome) (U : State) : Prop :=
  ∃ v L, o = .returned v ∧ P v U.heap L ∧ FrameEnd s o U L C S
def own_Ctx (p : Program) (s : State) (m : MethodId) (meth : Method) (c : Code) (Z : State) (y : MethodName) (bytes : ByteArray) (maxL : Nat) (rt : Option FieldType) : Prop :=
  p.tables.exec = Jvm.exec ∧ Z.Warmed39 s.vm ∧ c.code = bytes ∧ c.maxLocals = maxL ∧ s.vm.findClass y.cls = some m.cls ∧ meth.name = y.name ∧ meth.sig.returnType = rt ∧ meth.locks = false
def own_Met (l : Launch) (Z : State) (y : MethodName) (bytes : ByteArray) (maxL : Nat) (rt : Option FieldType) (ws : List Jvm.Cond) (rm : Room) (as' : Array Value) (h : Heap) (P : Option Value → Heap → List Loc → Prop) : Prop :=
  MetFree l y (head1 (Jvm.Cond.code y bytes maxL rt :: ws) rm) (fun a U => a = as' ∧ Z.Warmed39 U.vm ∧ U.heap = h) (fun _ _ _ _ _ => True) (fun _ U o U' => ∃ v L, o = .returned v ∧ P v U'.heap L ∧ FrameEnd U o U' L rm.cells rm.slots)
section Own
variable {p : Program} {l : Launch} {e : Env} {R : Room} {s : State} {m : MethodId} {args : Array Value} {below : List Frame} {meth : Method} {c : Code} {T T' : State} {locs : List Loc} {cells slots : Nat} {Z : State} {a0 : Array Value} {y : MethodName} {bytes : ByteArray} {maxL : Nat} {rt : Option FieldType} {P : Option Value → Heap → List Loc → Prop} {Q : Outcome → State → Prop}
theorem own_go {g g' : JFrame} (st : ∀ t, Steps p.tables e below (T'.setTop g') t → Steps p.tables e below (T.setTop g) t) (h : own_WP p e below Q T' g') : own_WP p e below Q T g := by
  obtain ⟨s₂, o, h1, h2⟩ := h
  exact ⟨s₂, o, st _ h1, h2⟩
theorem own_body {ws : List Jvm.Cond} {rm : Room} {as' : Array Value} {h : Heap} (hp : plainFor y = true)
    (body : ∀ p e s m below meth c s₁, own_Ctx p s m meth c Z y bytes maxL rt → Stand p l e rm s m as' below meth c s₁ [] 0 0 → s₁.heap = h → own_WP p e below (own_Q s P rm.cells rm.slots) s₁ (entryFrame m as' maxL)) :
    own_Met l Z y bytes maxL rt ws rm as' h P := by
  refine MetFree.of_bodySF hp hisR ?_
  intro p e s m args below meth c s₁ Bd hml0 hP hK
  obtain ⟨rfl, hZ, hh⟩ := hP
  exact body p e s m below meth c s₁ ⟨Bd.exec, hZ, Bd.bytes, hml0, findClass_of_methodNamed Bd.named, (name_of_methodNamed Bd.named Bd.method).1, Bd.returns, Bd.notSynchronized⟩ (Stand.of_body Bd) (by rw [← hh, Bd.state]; rfl)
theorem own_cast {g g' : JFrame} (q : g = g') (k : own_WP p e below Q T g') : own_WP p e below Q T g := q ▸ k
theorem own_retI (X : Stand p l e R s m args below meth c T locs cells slots) (C : own_Ctx p s m meth c Z y bytes maxL (some .int)) {pc : Nat} {Ls : Array Slot} {z : Int32} {rest : List Value} {CC SS : Nat}
    (hd : decode c.code pc = .ok (.ireturn, 1)) (hP : P (some (.int z)) T.heap locs) (hc : cells ≤ CC) (hs : slots ≤ SS) : own_WP p e below (own_Q s P CC SS) T (mkF m pc Ls (.int z :: rest)) := by
  obtain ⟨hx, -, -, -, -, -, hr, hlk⟩ := C
  obtain ⟨fs, hrr, hrun, hended, hW, hsame⟩ := X.leave (v := some (.int z)) (fun h => by rw [hr] at h; cases h) hlk
  exact ⟨_, _, retI X hx hr hd hrr, hrun, hended, _, _, rfl, hP, ⟨_, rfl⟩, hW, hsame.mono hc hs⟩
theorem own_retN {t : FieldType} (X : Stand p l e R s m args below meth c T locs cells slots) (C : own_Ctx p s m meth c Z y bytes maxL (some t)) (ht : t = .boolean ∨ t = .byte ∨ t = .char ∨ t = .short) {pc : Nat} {Ls : Array Slot} {z : Int32} {rest : List Value} {CC SS : Nat}
    (hd : decode c.code pc = .ok (.ireturn, 1)) (hP : P (some (.int (nar t z))) T.heap locs) (hc : cells ≤ CC) (hs : slots ≤ SS) : own_WP p e below (own_Q s P CC SS) T (mkF m pc Ls (.int z :: rest)) := by
  obtain ⟨hx, -, -, -, -, -, hr, hlk⟩ := C
  obtain ⟨fs, hrr, hrun, hended, hW, hsame⟩ := X.leave (v := some (.int (nar t z))) (fun h => by rw [hr] at h; cases h) hlk
  exact ⟨_, _, retN X hx hr ht hd hrr, hrun, hended, _, _, rfl, hP, ⟨_, rfl⟩, hW, hsame.mono hc hs⟩
theorem own_retL (X : Stand p l e R s m args below meth c T locs cells slots) (C : own_Ctx p s m meth c Z y bytes maxL (some .long)) {pc : Nat} {Ls : Array Slot} {z : Int64} {CC SS : Nat}
    (hd : decode c.code pc = .ok (.lreturn, 1)) (hP : P (some (.long z)) T.heap locs) (hc : cells ≤ CC) (hs : slots ≤ SS) : own_WP p e below (own_Q s P CC SS) T (mkF m pc Ls [.long z]) := by
  obtain ⟨hx, -, -, -, -, -, hr, hlk⟩ := C
  obtain ⟨fs, hrr, hrun, hended, hW, hsame⟩ := X.leave (v := some (.long z)) (fun h => by rw [hr] at h; cases h) hlk
  exact ⟨_, _, X.lreturnOut hx hr hd hrr, hrun, hended, _, _, rfl, hP, ⟨_, rfl⟩, hW, hsame.mono hc hs⟩
theorem own_retV (X : Stand p l e R s m args below meth c T locs cells slots) (C : own_Ctx p s m meth c Z y bytes maxL none) {pc : Nat} {Ls : Array Slot} {CC SS : Nat}
    (hd : decode c.code pc = .ok (.return_, 1)) (hP : P none T.heap locs) (hc : cells ≤ CC) (hs : slots ≤ SS) : own_WP p e below (own_Q s P CC SS) T (mkF m pc Ls []) := by
  obtain ⟨hx, -, -, -, -, -, hr, hlk⟩ := C
  obtain ⟨fs, hrr, hrun, hended, hW, hsame⟩ := X.leave (v := none) (fun _ => rfl) hlk
  exact ⟨_, _, X.returnOut hx hr hd hrr, hrun, hended, _, _, rfl, hP, ⟨_, rfl⟩, hW, hsame.mono hc hs⟩
theorem own_retA {t : FieldType} (X : Stand p l e R s m args below meth c T locs cells slots) (C : own_Ctx p s m meth c Z y bytes maxL (some t)) (ht : t.isReference = true) {pc : Nat} {Ls : Array Slot} {a : Addr} {CC SS : Nat}
    (hd : decode c.code pc = .ok (.areturn, 1)) (hP : P (some (.ref a)) T.heap locs) (hc : cells ≤ CC) (hs : slots ≤ SS) : own_WP p e below (own_Q s P CC SS) T (mkF m pc Ls [.ref a]) := by
  obtain ⟨hx, -, -, -, -, -, hr, hlk⟩ := C
  obtain ⟨fs, hrr, hrun, hended, hW, hsame⟩ := X.leave (v := some (.ref a)) (fun h => by rw [hr] at h; cases h) hlk
  exact ⟨_, _, X.areturnOut hx rfl hr ht hd hrr, hrun, hended, _, _, rfl, hP, ⟨_, rfl⟩, hW, hsame.mono hc hs⟩
/-- a static call by the callee's contract -/
theorem own_callS (X : Stand p l e R s m args below meth c T locs cells slots) (C : own_Ctx p s m meth c Z y bytes maxL rt) {idx : Nat} {y' : MethodName} {bytes' : ByteArray} {maxL' : Nat} {rt' : Option FieldType} {rm' : Room} {argsL rest : List Value} {h : Heap} {P' : Option Value → Heap → List Loc → Prop}
    (hM : own_Met l Z y' bytes' maxL' rt' [] rm' argsL.toArray h P') (w1 : (Cond.methodLink y.cls idx y').before a0 Z = true) (w2 : (Cond.static y').before a0 Z = true) (w3 : (Cond.initialized y'.cls).before a0 Z = true) (w4 : (Cond.code y' bytes' maxL' rt').before a0 Z = true)
    (hy : y'.cls ≠ "java/lang/invoke/MethodHandle" ∧ y'.cls ≠ "java/lang/invoke/VarHandle") (eT : T.heap = h) {W : Nat} {pc : Nat} {Ls : Array Slot} (hsz : Ls.size = maxL) (hlen : ∀ sig, parseMethodDescriptor y'.desc = some sig → argsL.length = sig.parameters.length)
    {stk : List Value} (hst : stk = argsL.reverse ++ rest) (hW : (rest.map fun v => v.category).sum ≤ W) (hd : decode c.code pc = .ok (.invokestatic idx, 3))
    (hf : rm'.frames + 1 ≤ R.frames) (hl : W + (maxL' + 11) + rm'.locals ≤ R.locals) (hc : cells + rm'.cells ≤ R.cells) (hs : slots + rm'.slots ≤ R.slots) :
    ∃ T' v L, Stand p l e R s m args below meth c T' (locs ++ L) (cells + rm'.cells) (slots + rm'.slots) ∧ P' v T'.heap L ∧ ∀ t, Steps p.tables e below (T'.setTop (mkF m (pc + 3) Ls (v.toList ++ rest))) t → Steps p.tables e below (T.setTop (mkF m pc Ls stk)) t := by
  obtain ⟨hx, hZ, hby, hml, hown, hnm, hr, hlk⟩ := C
  obtain ⟨v, _, ⟨T', L', k', n'⟩, -, X', ⟨L, hQ, hl', hk', hn'⟩, st⟩ := Jvm.LawKit.callS X hx (y := y') hown (mvT hZ w1) (mvT hZ w2) (mvT hZ w3) (mvT hZ w4) hy (backOf (W := W) hM hZ w4 w3 hf hl) (g := mkF m pc Ls stk) rfl (by rw [hml]; exact hsz) (argsL := argsL) (rest := rest) hlen hst (by show 2 * 0 + _ ≤ _; omega) hd (fun _ _ => ⟨rfl, eT, hc, hs⟩)
  dsimp only [Pt.U, Pt.locs, Pt.cells, Pt.slots] at X' hl' hk' hn' st hQ
  subst hl' hk' hn'
  exact ⟨T', v, L, X', hQ, st⟩
/-- a constructor by its contract -/
theorem own_callN (X : Stand p l e R s m args below meth c T locs cells slots) (C : own_Ctx p s m meth c Z y bytes maxL rt) {idx : Nat} {y' : MethodName} {bytes' : ByteArray} {maxL' : Nat} {rm' : Room} {a : Addr} {argsL rest : List Value} {h : Heap} {P' : Option Value → Heap → List Loc → Prop}
    (hM : own_Met l Z y' bytes' maxL' none [] rm' (.ref a :: argsL).toArray h P') (hyn : y'.name = "<init>") (w1 : (Cond.methodLink y.cls idx y').before a0 Z = true) (w2 : (Cond.instanceMethod y').before a0 Z = true) (w3 : (Cond.initialized y'.cls).before a0 Z = true) (w4 : (Cond.code y' bytes' maxL' none).before a0 Z = true)
    (hy : y'.cls ≠ "java/lang/invoke/MethodHandle" ∧ y'.cls ≠ "java/lang/invoke/VarHandle") (eT : T.heap = h) {W : Nat} {pc : Nat} {Ls : Array Slot} (hsz : Ls.size = maxL) (hlen : ∀ sig, parseMethodDescriptor y'.desc = some sig → argsL.length = sig.parameters.length)
    {stk : List Value} (hst : stk = argsL.reverse ++ .ref a :: rest) (hW : (rest.map fun v => v.category).sum ≤ W) (hd : decode c.code pc = .ok (.invokespecial idx, 3))
    (hf : rm'.frames + 1 ≤ R.frames) (hl : W + (maxL' + 11) + rm'.locals ≤ R.locals) (hc : cells + rm'.cells ≤ R.cells) (hs : slots + rm'.slots ≤ R.slots) :
    ∃ T' v L, Stand p l e R s m args below meth c T' (locs ++ L) (cells + rm'.cells) (slots + rm'.slots) ∧ P' v T'.heap L ∧ ∀ t, Steps p.tables e below (T'.setTop (mkF m (pc + 3) Ls (v.toList ++ rest))) t → Steps p.tables e below (T.setTop (mkF m pc Ls stk)) t := by
  obtain ⟨hx, hZ, hby, hml, hown, hnm, hr, hlk⟩ := C
  obtain ⟨v, _, ⟨T', L', k', n'⟩, -, X', ⟨L, hQ, hl', hk', hn'⟩, st⟩ := X.specialBack hx (y := y') hyn hown (mvT hZ w1) (mvT hZ w2) (mvT hZ w4) hy (backOf (W := W) hM hZ w4 w3 hf hl) (g := mkF m pc Ls stk) rfl (by rw [hml]; exact hsz) (Steps.refl _) (a := a) (argsL := argsL) (rest := rest) hlen hst (by show 2 * 0 + _ ≤ _; omega) hd (fun _ _ => ⟨rfl, eT, hc, hs⟩)
  dsimp only [Pt.U, Pt.locs, Pt.cells, Pt.slots] at X' hl' hk' hn' st hQ
  subst hl' hk' hn'
  exact ⟨T', v, L, X', hQ, fun t k => st.trans k⟩
/-- an instance method by the contract of the body that is selected (the class that declares it is the receiver's own) -/
theorem own_callV (X : Stand p l e R s m args below meth c T locs cells slots) (C : own_Ctx p s m meth c Z y bytes maxL rt) {idx : Nat} {y' : MethodName} {bytes' : ByteArray} {maxL' : Nat} {rt' : Option FieldType} {rm' : Room} {a : Addr} {argsL rest : List Value} {h : Heap} {P' : Option Value → Heap → List Loc → Prop}
    (hM : own_Met l Z y' bytes' maxL' rt' [] rm' (.ref a :: argsL).toArray h P') (w1 : (Cond.methodLink y.cls idx y').before a0 Z = true) (wd : (Cond.declares y').before a0 Z = true) (wsel : (Cond.selects y'.cls y' y').before a0 Z = true) (w2 : (Cond.instanceMethod y').before a0 Z = true) (w3 : (Cond.initialized y'.cls).before a0 Z = true) (w4 : (Cond.code y' bytes' maxL' rt').before a0 Z = true)
    (hy : y'.cls ≠ "java/lang/invoke/MethodHandle" ∧ y'.cls ≠ "java/lang/invoke/VarHandle") (eT : T.heap = h) (E : Exa Z h a y'.cls) {W : Nat} {pc : Nat} {Ls : Array Slot} (hsz : Ls.size = maxL) (hlen : ∀ sig, parseMethodDescriptor y'.desc = some sig → argsL.length = sig.parameters.length)
    {stk : List Value} (hst : stk = argsL.reverse ++ .ref a :: rest) (hW : (rest.map fun v => v.category).sum ≤ W) (hd : decode c.code pc = .ok (.invokevirtual idx, 3))
    (hf : rm'.frames + 1 ≤ R.frames) (hl : W + (maxL' + 11) + rm'.locals ≤ R.locals) (hc : cells + rm'.cells ≤ R.cells) (hs : slots + rm'.slots ≤ R.slots) :
    ∃ T' v L, Stand p l e R s m args below meth c T' (locs ++ L) (cells + rm'.cells) (slots + rm'.slots) ∧ P' v T'.heap L ∧ ∀ t, Steps p.tables e below (T'.setTop (mkF m (pc + 3) Ls (v.toList ++ rest))) t → Steps p.tables e below (T.setTop (mkF m pc Ls stk)) t := by
  obtain ⟨hx, hZ, hby, hml, hown, hnm, hr, hlk⟩ := C
  obtain ⟨cq, kq, qa, qb, qc⟩ := isOf hZ eT E
  obtain ⟨v, _, ⟨T', L', k', n'⟩, -, X', ⟨L, hQ, hl', hk', hn'⟩, st⟩ := X.virtualBack hx (y := y') (z := y') hown (mvT hZ w1) (mvT hZ wd) (notFace_of_selects (args := #[]) (mvT hZ wsel)) (mvT hZ wsel) (mvT hZ w2) hy (backOf (W := W) hM hZ w4 w3 hf hl) qa qc (g := mkF m pc Ls stk) rfl (by rw [hml]; exact hsz) (Steps.refl _) (argsL := argsL) (rest := rest) hlen hst (by show 2 * 0 + _ ≤ _; omega) hd (fun _ _ => ⟨rfl, eT, hc, hs⟩)
  dsimp only [Pt.U, Pt.locs, Pt.cells, Pt.slots] at X' hl' hk' hn' st hQ
  subst hl' hk' hn'
  exact ⟨T', v, L, X', hQ, fun t k => st.trans k⟩
end Own
end Jvm.Pilot.@@N@@
namespace Jvm.Pilot.@@N@@
open Jvm Jvm.ClassFile Sem Op Lib Jvm.Free Jvm.Stand Jvm.LawKit Jvm.RoadKit Bundle Jvm.Pilot.@@N@@.Jvm.D
/-- the array at b holds just vs -/
def own_A (Z : State) (h : Heap) (b : Addr) (ty : FieldType) (vs : List Value) : Prop := Exa Z h b ("[" ++ ty.toString) ∧ ∃ c : Cell, Arr Z h b c ty ∧ c.slots = vs.toArray ∧ vs.length < 2147483648 ∧ ∀ v ∈ vs, fits ty v = true
def own_AI (Z : State) (h : Heap) (b : Addr) (ty : FieldType) (vs : List Int32) : Prop := own_A Z h b ty (vs.map Value.int)
def own_AJ (Z : State) (h : Heap) (b : Addr) (ty : FieldType) (vs : List Int64) : Prop := own_A Z h b ty (vs.map Value.long)
def own_get {α : Type} (vs : List α) (j : Int32) : Option α := if j < 0 then none else vs[j.toNatClampNeg]?
def own_set {α : Type} (vs : List α) (j : Int32) (x : α) : Option (List α) := if j < 0 then none else if j.toNatClampNeg < vs.length then some (vs.set j.toNatClampNeg x) else none
theorem own_bind {α β : Type} {o : Option α} {f : α → Option β} {r : β} (h : o.bind f = some r) : ∃ v, o = some v ∧ f v = some r := by
  cases o with
  | none => cases h
  | some v => exact ⟨v, rfl, h⟩
def own_let {α β : Type} (a : α) (f : α → β) : β := f a
theorem own_letE {α β : Type} {a : α} {f : α → β} {r : β} (h : own_let a f = r) : f a = r := h
theorem own_ne {a b : Nat} (h : a < b ∨ b < a) : @Ne Addr a b := by
  intro e
  rcases h with h | h
  · exact Nat.lt_irrefl _ (e ▸ h)
  · exact Nat.lt_irrefl _ (e ▸ h)
theorem own_cap {n : Int32} {c : Int} {k : Nat} (hk : c = (k : Int)) (h : ¬ c < n.toInt) : n.toNatClampNeg ≤ k := by
  have q : n.toNatClampNeg = n.toInt.toNat := rfl
  rw [q]; omega
section Own
variable {p : Program} {l : Launch} {e : Env} {R : Room} {s : State} {m : MethodId} {args : Array Value} {below : List Frame} {meth : Method} {c : Code} {T T' : State} {locs : List Loc} {cells slots : Nat} {Z : State} {a0 : Array Value} {y : MethodName} {bytes : ByteArray} {maxL : Nat} {rt : Option FieldType} {h h' : Heap} {a b : Addr} {ty : FieldType}
theorem own_A.lt {vs : List Value} (F : own_A Z h b ty vs) : b < h.size := by obtain ⟨E, c, A, -⟩ := F; exact A.lt
theorem own_A.ext {vs : List Value} (F : own_A Z h b ty vs) (E : Ext h h') : own_A Z h' b ty vs := by obtain ⟨Q, c, A, r⟩ := F; exact ⟨Q.ext E, c, A.ext E, r⟩
theorem own_A.other {vs : List Value} {sl : Nat} {v : Value} (F : own_A Z h b ty vs) (W : Wr h h' a sl v) (q : b ≠ a) : own_A Z h' b ty vs := by obtain ⟨Q, c, A, r⟩ := F; exact ⟨Q.wr W, c, A.other W q, r⟩
theorem own_A.keep {vs : List Value} {ws : List Addr} (F : own_A Z h b ty vs) (K : Keep h h' ws) (q : b ∉ ws) : own_A Z h' b ty vs := by obtain ⟨Q, c, A, r⟩ := F; exact ⟨Q.keep K, c, ⟨K.2.1 b c A.1 q, A.2⟩, r⟩
theorem own_A.set {vs : List Value} {j : Nat} {v : Value} (F : own_A Z h b ty vs) (W : Wr h h' b j v) (hv : fits ty v = true) : own_A Z h' b ty (vs.set j v) := by
  obtain ⟨Q, c, A, r1, r2, r3⟩ := F
  refine ⟨Q.wr W, _, A.same W, ?_, by simpa using r2, ?_⟩
  · show c.slots.setIfInBounds j v = _
    rw [r1]; simp
  · intro u hu
    rcases List.mem_or_eq_of_mem_set hu with q | q
    · exact r3 u q
    · rw [q]; exact hv
theorem own_AI.lt {vs : List Int32} (F : own_AI Z h b ty vs) : b < h.size := own_A.lt F
theorem own_AI.ext {vs : List Int32} (F : own_AI Z h b ty vs) (E : Ext h h') : own_AI Z h' b ty vs := own_A.ext F E
theorem own_AI.other {vs : List Int32} {sl : Nat} {v : Value} (F : own_AI Z h b ty vs) (W : Wr h h' a sl v) (q : b ≠ a) : own_AI Z h' b ty vs := own_A.other F W q
theorem own_AI.keep {vs : List Int32} {ws : List Addr} (F : own_AI Z h b ty vs) (K : Keep h h' ws) (q : b ∉ ws) : own_AI Z h' b ty vs := own_A.keep F K q
theorem own_AJ.lt {vs : List Int64} (F : own_AJ Z h b ty vs) : b < h.size := own_A.lt F
theorem own_AJ.ext {vs : List Int64} (F : own_AJ Z h b ty vs) (E : Ext h h') : own_AJ Z h' b ty vs := own_A.ext F E
theorem own_AJ.other {vs : List Int64} {sl : Nat} {v : Value} (F : own_AJ Z h b ty vs) (W : Wr h h' a sl v) (q : b ≠ a) : own_AJ Z h' b ty vs := own_A.other F W q
theorem own_AJ.keep {vs : List Int64} {ws : List Addr} (F : own_AJ Z h b ty vs) (K : Keep h h' ws) (q : b ∉ ws) : own_AJ Z h' b ty vs := own_A.keep F K q
theorem own_A.place {α : Type} {f : α → Value} {vs : List α} {j : Int32} {v : α} (F : own_A Z h b ty (vs.map f)) (g : own_get vs j = some v) : ∃ c : Cell, Arr Z h b c ty ∧ ¬ (j < 0 ∨ c.slots.size ≤ j.toNatClampNeg) ∧ c.slots[j.toNatClampNeg]? = some (f v) := by
  obtain ⟨-, c, A, r1, r2, -⟩ := F
  unfold own_get at g
  split at g
  · cases g
  · rename_i hj
    obtain ⟨hlt, hv⟩ := List.getElem?_eq_some_iff.mp g
    refine ⟨c, A, ?_, ?_⟩
    · rintro (q | q)
      · exact hj q
      · rw [r1] at q; simp at q; omega
    · rw [r1]; simp [g]
theorem own_A.room {α : Type} {f : α → Value} {vs vs' : List α} {j : Int32} {v : α} (F : own_A Z h b ty (vs.map f)) (g : own_set vs j v = some vs') : ∃ c : Cell, Arr Z h b c ty ∧ ¬ (j < 0 ∨ c.slots.size ≤ j.toNatClampNeg) ∧ vs' = vs.set j.toNatClampNeg v := by
  obtain ⟨-, c, A, r1, r2, -⟩ := F
  unfold own_set at g
  split at g
  · cases g
  · rename_i hj
    split at g
    · rename_i hlt
      refine ⟨c, A, ?_, (Option.some.inj g).symm⟩
      rintro (q | q)
      · exact hj q
      · rw [r1] at q; simp at q; omega
    · cases g
theorem own_iaload (X : Stand p l e R s m args below meth c T locs cells slots) (C : own_Ctx p s m meth c Z y bytes maxL rt) (eT : T.heap = h) {vs : List Int32} (F : own_AI Z h b .int vs) {j v : Int32} (g : own_get vs j = some v) {pc : Nat} {Ls : Array Slot} {rest : List Value} (hd : decode c.code pc = .ok (.iaload, 1)) :
    ∀ t, Steps p.tables e below (T.setTop (mkF m (pc + 1) Ls (.int v :: rest))) t → Steps p.tables e below (T.setTop (mkF m pc Ls (.int j :: .ref b :: rest))) t := by
  obtain ⟨hx, hZ, -⟩ := C
  obtain ⟨cl, A, hin, hat⟩ := own_A.place F g
  intro t k
  exact X.iaload hx (j := j) (v := .int v) (by rw [eT]; exact A.1) (State.isArrayOf_alike hZ.alike A.2.1) A.2.2 hin hat (g := mkF m pc Ls (.int j :: .ref b :: rest)) rfl rfl hd t k
theorem own_baload (X : Stand p l e R s m args below meth c T locs cells slots) (C : own_Ctx p s m meth c Z y bytes maxL rt) (eT : T.heap = h) {vs : List Int32} (F : own_AI Z h b .byte vs) {j v : Int32} (g : own_get vs j = some v) {pc : Nat} {Ls : Array Slot} {rest : List Value} (hd : decode c.code pc = .ok (.baload, 1)) :
    ∀ t, Steps p.tables e below (T.setTop (mkF m (pc + 1) Ls (.int v :: rest))) t → Steps p.tables e below (T.setTop (mkF m pc Ls (.int j :: .ref b :: rest))) t := by
  obtain ⟨hx, hZ, -⟩ := C
  obtain ⟨cl, A, hin, hat⟩ := own_A.place F g
  intro t k
  exact X.baloadBytes hx (j := j) (v := .int v) (by rw [eT]; exact A.1) (State.isArrayOf_alike hZ.alike A.2.1) A.2.2 hin hat (g := mkF m pc Ls (.int j :: .ref b :: rest)) rfl rfl hd t k
theorem own_laload (X : Stand p l e R s m args below meth c T locs cells slots) (C : own_Ctx p s m meth c Z y bytes maxL rt) (eT : T.heap = h) {vs : List Int64} (F : own_AJ Z h b .long vs) {j : Int32} {v : Int64} (g : own_get vs j = some v) {pc : Nat} {Ls : Array Slot} {rest : List Value} (hd : decode c.code pc = .ok (.laload, 1)) :
    ∀ t, Steps p.tables e below (T.setTop (mkF m (pc + 1) Ls (.long v :: rest))) t → Steps p.tables e below (T.setTop (mkF m pc Ls (.int j :: .ref b :: rest))) t := by
  obtain ⟨hx, hZ, -⟩ := C
  obtain ⟨cl, A, hin, hat⟩ := own_A.place F g
  intro t k
  exact X.laload hx (j := j) (v := .long v) (by rw [eT]; exact A.1) (State.isArrayOf_alike hZ.alike A.2.1) A.2.2 hin hat (g := mkF m pc Ls (.int j :: .ref b :: rest)) rfl rfl hd t k
theorem own_len (X : Stand p l e R s m args below meth c T locs cells slots) (C : own_Ctx p s m meth c Z y bytes maxL rt) (eT : T.heap = h) {vs : List Value} (F : own_A Z h b ty vs) {pc : Nat} {Ls : Array Slot} {rest : List Value} (hd : decode c.code pc = .ok (.arraylength, 1)) :
    ∀ t, Steps p.tables e below (T.setTop (mkF m (pc + 1) Ls (.int (Int32.ofNat vs.length) :: rest))) t → Steps p.tables e below (T.setTop (mkF m pc Ls (.ref b :: rest))) t := by
  obtain ⟨hx, hZ, -⟩ := C
  obtain ⟨-, cl, A, r1, r2, -⟩ := F
  intro t k
  refine X.arraylength hx (by rw [eT]; exact A.1) (State.isArrayOf_alike hZ.alike A.2.1) (g := mkF m pc Ls (.ref b :: rest)) rfl rfl hd t ?_
  have q : cl.slots.size.toInt32 = Int32.ofNat vs.length := by
    rw [r1, List.size_toArray]
  rw [q]; exact k
theorem own_lenI (X : Stand p l e R s m args below meth c T locs cells slots) (C : own_Ctx p s m meth c Z y bytes maxL rt) (eT : T.heap = h) {vs : List Int32} (F : own_AI Z h b ty vs) {pc : Nat} {Ls : Array Slot} {rest : List Value} (hd : decode c.code pc = .ok (.arraylength, 1)) :
    ∀ t, Steps p.tables e below (T.setTop (mkF m (pc + 1) Ls (.int (Int32.ofNat vs.length) :: rest))) t → Steps p.tables e below (T.setTop (mkF m pc Ls (.ref b :: rest))) t := by
  have k := own_len X C eT F (Ls := Ls) (rest := rest) hd
  rwa [List.length_map] at k
theorem own_lenJ (X : Stand p l e R s m args below meth c T locs cells slots) (C : own_Ctx p s m meth c Z y bytes maxL rt) (eT : T.heap = h) {vs : List Int64} (F : own_AJ Z h b ty vs) {pc : Nat} {Ls : Array Slot} {rest : List Value} (hd : decode c.code pc = .ok (.arraylength, 1)) :
    ∀ t, Steps p.tables e below (T.setTop (mkF m (pc + 1) Ls (.int (Int32.ofNat vs.length) :: rest))) t → Steps p.tables e below (T.setTop (mkF m pc Ls (.ref b :: rest))) t := by
  have k := own_len X C eT F (Ls := Ls) (rest := rest) hd
  rwa [List.length_map] at k
theorem own_iastore (X : Stand p l e R s m args below meth c T locs cells slots) (C : own_Ctx p s m meth c Z y bytes maxL rt) (eT : T.heap = h) {vs vs' : List Int32} (F : own_AI Z h b .int vs) {j x : Int32} (g : own_set vs j x = some vs') {pc : Nat} {Ls : Array Slot} {rest : List Value} (hd : decode c.code pc = .ok (.iastore, 1)) :
    ∃ T' h', Stand p l e R s m args below meth c T' (locs ++ [⟨b, j.toNatClampNeg⟩]) cells slots ∧ T'.heap = h' ∧ Wr h h' b j.toNatClampNeg (.int x) ∧ own_AI Z h' b .int vs' ∧
      ∀ t, Steps p.tables e below (T'.setTop (mkF m (pc + 1) Ls rest)) t → Steps p.tables e below (T.setTop (mkF m pc Ls (.int x :: .int j :: .ref b :: rest))) t := by
  obtain ⟨hx, hZ, -⟩ := C
  obtain ⟨cl, A, hin, rfl⟩ := own_A.room F g
  obtain ⟨T', h', X', e', W, st⟩ := stI X hx hZ eT A (j := j) (x := x) hin (g := mkF m pc Ls (.int x :: .int j :: .ref b :: rest)) rfl rfl hd
  refine ⟨T', h', X', e', W, ?_, st⟩
  have k := own_A.set F W rfl
  unfold own_AI
  rwa [List.map_set]
theorem own_lastore (X : Stand p l e R s m args below meth c T locs cells slots) (C : own_Ctx p s m meth c Z y bytes maxL rt) (eT : T.heap = h) {vs vs' : List Int64} (F : own_AJ Z h b .long vs) {j : Int32} {x : Int64} (g : own_set vs j x = some vs') {pc : Nat} {Ls : Array Slot} {rest : List Value} (hd : decode c.code pc = .ok (.lastore, 1)) :
    ∃ T' h', Stand p l e R s m args below meth c T' (locs ++ [⟨b, j.toNatClampNeg⟩]) cells slots ∧ T'.heap = h' ∧ Wr h h' b j.toNatClampNeg (.long x) ∧ own_AJ Z h' b .long vs' ∧
      ∀ t, Steps p.tables e below (T'.setTop (mkF m (pc + 1) Ls rest)) t → Steps p.tables e below (T.setTop (mkF m pc Ls (.long x :: .int j :: .ref b :: rest))) t := by
  obtain ⟨hx, hZ, -⟩ := C
  obtain ⟨cl, A, hin, rfl⟩ := own_A.room F g
  obtain ⟨T', h', X', e', W, st⟩ := stJ X hx hZ eT A (j := j) (x := x) hin (g := mkF m pc Ls (.long x :: .int j :: .ref b :: rest)) rfl rfl hd
  refine ⟨T', h', X', e', W, ?_, st⟩
  have k := own_A.set F W rfl
  unfold own_AJ
  rwa [List.map_set]
theorem own_bastore (X : Stand p l e R s m args below meth c T locs cells slots) (C : own_Ctx p s m meth c Z y bytes maxL rt) (eT : T.heap = h) {vs vs' : List Int32} (F : own_AI Z h b .byte vs) {j x : Int32} (g : own_set vs j (x.toInt8.toInt32) = some vs') {pc : Nat} {Ls : Array Slot} {rest : List Value} (hd : decode c.code pc = .ok (.bastore, 1)) :
    ∃ T' h', Stand p l e R s m args below meth c T' (locs ++ [⟨b, j.toNatClampNeg⟩]) cells slots ∧ T'.heap = h' ∧ Wr h h' b j.toNatClampNeg (.int (x.toInt8.toInt32)) ∧ own_AI Z h' b .byte vs' ∧
      ∀ t, Steps p.tables e below (T'.setTop (mkF m (pc + 1) Ls rest)) t → Steps p.tables e below (T.setTop (mkF m pc Ls (.int x :: .int j :: .ref b :: rest))) t := by
  obtain ⟨hx, hZ, -⟩ := C
  obtain ⟨cl, A, hin, rfl⟩ := own_A.room F g
  obtain ⟨T', h', X', e', W, st⟩ := stB X hx hZ eT A (j := j) (x := x) hin (g := mkF m pc Ls (.int x :: .int j :: .ref b :: rest)) rfl rfl hd
  refine ⟨T', h', X', e', W, ?_, st⟩
  have k := own_A.set F W (fits_nar_byte x)
  unfold own_AI
  rwa [List.map_set]
theorem own_newI (X : Stand p l e R s m args below meth c T locs cells slots) (C : own_Ctx p s m meth c Z y bytes maxL rt) (eT : T.heap = h) {aty : ArrayType} (hk : newarray.typeOf aty = ty) (hdv : defaultValue ty = .int 0) (hfz : fits ty (.int 0) = true) (w : (Cond.arrayClass ty).before a0 Z = true) {n : Int32} (hn : ¬ n < 0) {cap : Nat} (hcap : n.toNatClampNeg ≤ cap) (hb : cap * 8 ≤ 536870912) (hc : cells + 1 ≤ R.cells) (hl : slots + cap ≤ R.slots)
    {pc : Nat} {Ls : Array Slot} {rest : List Value} (hd : decode c.code pc = .ok (.newarray aty, 2)) :
    ∃ T' h' b, Stand p l e R s m args below meth c T' locs (cells + 1) (slots + cap) ∧ T'.heap = h' ∧ Ext h h' ∧ b = h.size ∧ own_AI Z h' b ty (List.replicate n.toNatClampNeg 0) ∧
      ∀ t, Steps p.tables e below (T'.setTop (mkF m (pc + 2) Ls (.ref b :: rest))) t → Steps p.tables e below (T.setTop (mkF m pc Ls (.int n :: rest))) t := by
  obtain ⟨hx, hZ, -⟩ := C
  subst hk
  obtain ⟨T', h', k, X', e', E, A, Q, st⟩ := newPE X hx hZ w eT (g := mkF m pc Ls (.int n :: rest)) rfl hd rfl hn (cap := cap) hcap hb hc hl rfl
  refine ⟨T', h', h.size, X', e', E, rfl, ⟨Q, _, A, ?_, ?_, ?_⟩, st⟩
  · show Array.replicate _ _ = _
    rw [hdv]; simp
  · rw [List.map_replicate, List.length_replicate]; omega
  · intro v hv
    rw [List.map_replicate] at hv
    rw [List.eq_of_mem_replicate hv]
    exact hfz
theorem own_newJ (X : Stand p l e R s m args below meth c T locs cells slots) (C : own_Ctx p s m meth c Z y bytes maxL rt) (eT : T.heap = h) {aty : ArrayType} (hk : newarray.typeOf aty = ty) (hdv : defaultValue ty = .long 0) (hfz : fits ty (.long 0) = true) (w : (Cond.arrayClass ty).before a0 Z = true) {n : Int32} (hn : ¬ n < 0) {cap : Nat} (hcap : n.toNatClampNeg ≤ cap) (hb : cap * 8 ≤ 536870912) (hc : cells + 1 ≤ R.cells) (hl : slots + cap ≤ R.slots)
    {pc : Nat} {Ls : Array Slot} {rest : List Value} (hd : decode c.code pc = .ok (.newarray aty, 2)) :
    ∃ T' h' b, Stand p l e R s m args below meth c T' locs (cells + 1) (slots + cap) ∧ T'.heap = h' ∧ Ext h h' ∧ b = h.size ∧ own_AJ Z h' b ty (List.replicate n.toNatClampNeg 0) ∧
      ∀ t, Steps p.tables e below (T'.setTop (mkF m (pc + 2) Ls (.ref b :: rest))) t → Steps p.tables e below (T.setTop (mkF m pc Ls (.int n :: rest))) t := by
  obtain ⟨hx, hZ, -⟩ := C
  subst hk
  obtain ⟨T', h', k, X', e', E, A, Q, st⟩ := newPE X hx hZ w eT (g := mkF m pc Ls (.int n :: rest)) rfl hd rfl hn (cap := cap) hcap hb hc hl rfl
  refine ⟨T', h', h.size, X', e', E, rfl, ⟨Q, _, A, ?_, ?_, ?_⟩, st⟩
  · show Array.replicate _ _ = _
    rw [hdv]; simp
  · rw [List.map_replicate, List.length_replicate]; omega
  · intro v hv
    rw [List.map_replicate] at hv
    rw [List.eq_of_mem_replicate hv]
    exact hfz
end Own
end Jvm.Pilot.@@N@@
namespace Jvm.Pilot.@@N@@
open Jvm Jvm.ClassFile Sem Op Lib Jvm.Free Jvm.Stand Jvm.LawKit Jvm.RoadKit Bundle Jvm.Pilot.@@N@@.Jvm.D
theorem d1_0 : decode jdk_29_method_66_code 0 = .ok (.lload_n 0, 1) := by decide +kernel
theorem d1_1 : decode jdk_29_method_66_code 1 = .ok (.lload_n 2, 1) := by decide +kernel
theorem d1_2 : decode jdk_29_method_66_code 2 = .ok (.lcmp, 1) := by decide +kernel
theorem d1_3 : decode jdk_29_method_66_code 3 = .ok (.ifCond .lt 7, 3) := by decide +kernel
theorem d1_6 : decode jdk_29_method_66_code 6 = .ok (.lload_n 0, 1) := by decide +kernel
theorem d1_7 : decode jdk_29_method_66_code 7 = .ok (.goto 4, 3) := by decide +kernel
theorem d1_10 : decode jdk_29_method_66_code 10 = .ok (.lload_n 2, 1) := by decide +kernel
theorem d1_11 : decode jdk_29_method_66_code 11 = .ok (.lreturn, 1) := by decide +kernel
def rmR1 : Room := { frames := 0, cells := 0, slots := 0, locals := 0 }
def f1_0 (x0 : Int64) (x2 : Int64) : Int64 := (if x0 < x2 then x2 else x0)
set_option maxRecDepth 65536 in
set_option maxHeartbeats 40000000 in
theorem b1_0 {p : Program} {l : Launch} {e : Env} {s : State} {m : MethodId} {args : Array Value} {below : List Frame} {meth : Method} {c : Code} {T : State} {locs : List Loc} {Z : State} {a0 : Array Value} {h0 : Heap} {P : Option Value → Heap → List Loc → Prop} (hw : ∀ d ∈ tables_1, d.before a0 Z = true) (C : own_Ctx p s m meth c Z (⟨"java/lang/Math", "max", "(JJ)J"⟩ : MethodName) jdk_29_method_66_code 4 (some .long))
    (X : Stand p l e rmR1 s m args below meth c T locs 0 0) (e0 : T.heap = h0) (x0 : Int64) (x2 : Int64) (r : Int64) (hv : f1_0 x0 x2 = r) (hP : P (some (.long r)) h0 locs) :
    own_WP p e below (own_Q s P rmR1.cells rmR1.slots) T (mkF m 0 #[.val (.long x0), .second, .val (.long x2), .second] []) := by
  obtain ⟨hx, hZ, hby, hml, hown, hnm, hret, hlk⟩ := id C
  unfold f1_0 at hv
  show own_WP p e below _ T (mkF m 0 #[.val (.long x0), .second, .val (.long x2), .second] [])
  refine own_go (fun _ => XS.lloadN X.here hx rfl (hb hby d1_0) rfl) ?_
  show own_WP p e below _ T (mkF m 1 #[.val (.long x0), .second, .val (.long x2), .second] [(.long x0)])
  refine own_go (fun _ => XS.lloadN X.here hx rfl (hb hby d1_1) rfl) ?_
  show own_WP p e below _ T (mkF m 2 #[.val (.long x0), .second, .val (.long x2), .second] [(.long x2), (.long x0)])
  refine own_go (fun _ => XT.lcmp X.here hx rfl (hb hby d1_2) rfl) ?_
  show own_WP p e below _ T (mkF m 3 #[.val (.long x0), .second, .val (.long x2), .second] [(.int (XT.cmpL x0 x2))])
  by_cases h3 : x0 < x2
  · replace hv := (if_pos h3).symm.trans hv
    refine own_go (fun _ => XS.ifYes X.here hx rfl (pc0 := 3) (pc' := 10) rfl (hb hby d1_3) rfl (XT.ll_lt_t h3) (by decide) (by decide)) ?_
    show own_WP p e below _ T (mkF m 10 #[.val (.long x0), .second, .val (.long x2), .second] [])
    refine own_go (fun _ => XS.lloadN X.here hx rfl (hb hby d1_10) rfl) ?_
    show own_WP p e below _ T (mkF m 11 #[.val (.long x0), .second, .val (.long x2), .second] [(.long x2)])
    subst hv e0; exact own_retL X C (hb hby d1_11) hP (by decide) (by decide)
  · replace hv := (if_neg h3).symm.trans hv
    refine own_go (fun _ => XS.ifNo X.here hx rfl (hb hby d1_3) rfl (XT.ll_lt_f h3)) ?_
    show own_WP p e below _ T (mkF m 6 #[.val (.long x0), .second, .val (.long x2), .second] [])
    refine own_go (fun _ => XS.lloadN X.here hx rfl (hb hby d1_6) rfl) ?_
    show own_WP p e below _ T (mkF m 7 #[.val (.long x0), .second, .val (.long x2), .second] [(.long x0)])
    refine own_go (fun _ => XS.goto X.here hx rfl (pc0 := 7) (pc' := 11) rfl (hb hby d1_7) (by decide) (by decide)) ?_
    show own_WP p e below _ T (mkF m 11 #[.val (.long x0), .second, .val (.long x2), .second] [(.long x0)])
    subst hv e0; exact own_retL X C (hb hby d1_11) hP (by decide) (by decide)
theorem ef1 (m : MethodId) (x0 : Int64) (x2 : Int64) : entryFrame m #[(.long x0), (.long x2)] 4 = (mkF m 0 #[.val (.long x0), .second, .val (.long x2), .second] []) := by first | (simp [entryFrame, mkF, argsToLocals, Value.category]; done) | rfl
theorem pd1 : parseMethodDescriptor "(JJ)J" = some ⟨[.long, .long], some .long⟩ := by decide +kernel
theorem pn1 : plainFor (⟨"java/lang/Math", "max", "(JJ)J"⟩ : MethodName) = true := Jvm.Free.JP.mathPlain rfl (by decide +kernel)
theorem rm1 (l : Launch) (Z : State) (a0 : Array Value) (hw : ∀ d ∈ tables_1, d.before a0 Z = true) (x0 : Int64) (x2 : Int64) (h0 : Heap) : own_Met l Z (⟨"java/lang/Math", "max", "(JJ)J"⟩ : MethodName) jdk_29_method_66_code 4 (some .long) [] rmR1 #[(.long x0), (.long x2)] h0 (fun v h L => v = some (.long (f1_0 x0 x2)) ∧ L = [] ∧ h = h0) := by
  refine own_body pn1 ?_
  intro p e s m below meth c s₁ C X e0
  exact own_cast (ef1 m x0 x2) (b1_0 hw C X e0 x0 x2 _ rfl ⟨rfl, rfl, rfl⟩)
theorem d3_0 : decode jdk_30_method_1_code 0 = .ok (.aload_n 0, 1) := by decide +kernel
theorem d3_1 : decode jdk_30_method_1_code 1 = .ok (.invokespecial 1, 3) := by decide +kernel
theorem d3_4 : decode jdk_30_method_1_code 4 = .ok (.return_, 1) := by decide +kernel
def rmR3 : Room := { frames := 1, cells := 0, slots := 0, locals := 12 }
def E3 (Z : State) (h0 : Heap) (o0 : Nat)  (rr : Unit) (v : Option Value) (h : Heap) : Prop := v = none
def f3_0  : Option (Unit) := (some ())
set_option maxRecDepth 65536 in
set_option maxHeartbeats 40000000 in
theorem b3_0 {p : Program} {l : Launch} {e : Env} {s : State} {m : MethodId} {args : Array Value} {below : List Frame} {meth : Method} {c : Code} {Z : State} {a0 : Array Value} {h0 : Heap} {n0 : Nat} {P : Option Value → Heap → List Loc → Prop} (hw : ∀ d ∈ tables_1, d.before a0 Z = true) (C : own_Ctx p s m meth c Z (⟨"java/lang/Record", "<init>", "()V"⟩ : MethodName) jdk_30_method_1_code 1 none) (Z0 : n0 ≤ h0.size) {o0 : Nat}  (rr : Unit) (hP : ∀ v h L, Fr n0 L → Keep h0 h [] → E3 Z h0 o0 rr v h → P v h L)
    {T : State} {locs : List Loc} {h : Heap} (X : Stand p l e rmR3 s m args below meth c T locs 0 0) (e0 : T.heap = h) (N : Fr n0 locs) (K : Keep h0 h []) (hv : f3_0 = some rr) :
    own_WP p e below (own_Q s P rmR3.cells rmR3.slots) T (mkF m 0 #[.val (.ref o0)] []) := by
  obtain ⟨hx, hZ, hby, hml, hown, hnm, hret, hlk⟩ := id C
  replace hown : s.vm.findClass "java/lang/Record" = some m.cls := hown
  unfold f3_0 at hv
  show own_WP p e below _ T (mkF m 0 #[.val (.ref o0)] [])
  refine own_go (fun _ => XS.aloadN X.here hx rfl (hb hby d3_0) rfl rfl) ?_
  show own_WP p e below _ T (mkF m 1 #[.val (.ref o0)] [(.ref o0)])
  obtain ⟨T1, X1, e1, st1⟩ := initO X hx hZ hown (hw _ (List.mem_of_getElem? (i := 17) rfl)) (hw _ (List.mem_of_getElem? (i := 18) rfl)) (hw _ (List.mem_of_getElem? (i := 19) rfl)) e0 (g := (mkF m 1 #[.val (.ref o0)] [(.ref o0)])) rfl (by rw [hml]; rfl) rfl (hb hby d3_1) (by decide) (W := 0) (by show 2 * 0 + _ ≤ _; exact Nat.le_of_eq rfl) (by decide)
  refine own_go st1 ?_
  show own_WP p e below _ T1 (mkF m 4 #[.val (.ref o0)] [])
  obtain rfl := Option.some.inj hv
  subst e1
  exact own_retV X1 C (hb hby d3_4) (hP _ _ _ N K rfl) (by decide) (by decide)
theorem ef3 (m : MethodId) (o0 : Nat) : entryFrame m #[(.ref o0)] 1 = (mkF m 0 #[.val (.ref o0)] []) := by first | (simp [entryFrame, mkF, argsToLocals, Value.category]; done) | rfl
theorem pd3 : parseMethodDescriptor "()V" = some ⟨[], none⟩ := by decide +kernel
theorem pn3 : plainFor (⟨"java/lang/Record", "<init>", "()V"⟩ : MethodName) = true := plainFor_of_name (by first | (simp [plainName, overriddenIn]; done) | decide +kernel)
theorem rm3 (l : Launch) (Z : State) (a0 : Array Value) (hw : ∀ d ∈ tables_1, d.before a0 Z = true) (n0 : Nat) (h0 : Heap) (Z0 : n0 ≤ h0.size) {o0 : Nat}       (rr : Unit) (hf : f3_0 = some rr) :
    own_Met l Z (⟨"java/lang/Record", "<init>", "()V"⟩ : MethodName) jdk_30_method_1_code 1 none [] rmR3 #[(.ref o0)] h0 (fun v h L => Fr n0 L ∧ Keep h0 h [] ∧ E3 Z h0 o0 rr v h) := by
  refine own_body pn3 ?_
  intro p e s m below meth c s₁ C X e0
  exact own_cast (ef3 m o0) (b3_0 hw C Z0 rr (fun v h L a b c => ⟨a, b, c⟩) X e0 (Fr.nil n0) (Keep.refl h0 [])  hf)
theorem d2_0 : decode prog_16_method_1_code 0 = .ok (.aload_n 0, 1) := by decide +kernel
theorem d2_1 : decode prog_16_method_1_code 1 = .ok (.invokespecial 1, 3) := by decide +kernel
theorem d2_4 : decode prog_16_method_1_code 4 = .ok (.aload_n 0, 1) := by decide +kernel
theorem d2_5 : decode prog_16_method_1_code 5 = .ok (.lload_n 1, 1) := by decide +kernel
theorem d2_6 : decode prog_16_method_1_code 6 = .ok (.putfield 7, 3) := by decide +kernel
theorem d2_9 : decode prog_16_method_1_code 9 = .ok (.aload_n 0, 1) := by decide +kernel
theorem d2_10 : decode prog_16_method_1_code 10 = .ok (.iload_n 3, 1) := by decide +kernel
theorem d2_11 : decode prog_16_method_1_code 11 = .ok (.putfield 13, 3) := by decide +kernel
theorem d2_14 : decode prog_16_method_1_code 14 = .ok (.aload_n 0, 1) := by decide +kernel
theorem d2_15 : decode prog_16_method_1_code 15 = .ok (.lload 4, 2) := by decide +kernel
theorem d2_17 : decode prog_16_method_1_code 17 = .ok (.putfield 17, 3) := by decide +kernel
theorem d2_20 : decode prog_16_method_1_code 20 = .ok (.aload_n 0, 1) := by decide +kernel
theorem d2_21 : decode prog_16_method_1_code 21 = .ok (.lload 6, 2) := by decide +kernel
theorem d2_23 : decode prog_16_method_1_code 23 = .ok (.putfield 20, 3) := by decide +kernel
theorem d2_26 : decode prog_16_method_1_code 26 = .ok (.aload_n 0, 1) := by decide +kernel
theorem d2_27 : decode prog_16_method_1_code 27 = .ok (.lload 8, 2) := by decide +kernel
theorem d2_29 : decode prog_16_method_1_code 29 = .ok (.putfield 23, 3) := by decide +kernel
theorem d2_32 : decode prog_16_method_1_code 32 = .ok (.aload_n 0, 1) := by decide +kernel
theorem d2_33 : decode prog_16_method_1_code 33 = .ok (.lload 10, 2) := by decide +kernel
theorem d2_35 : decode prog_16_method_1_code 35 = .ok (.putfield 26, 3) := by decide +kernel
theorem d2_38 : decode prog_16_method_1_code 38 = .ok (.return_, 1) := by decide +kernel
def rmR2 : Room := { frames := 2, cells := 0, slots := 0, locals := 24 }
def E2 (Z : State) (h0 : Heap) (o0 : Nat)  (rr : Int64 × Int32 × Int64 × Int64 × Int64 × Int64) (v : Option Value) (h : Heap) : Prop := v = none ∧ Exa Z h o0 "com/example/uriel/uriel/Standing" ∧ Fld Z h o0 "com/example/uriel/uriel/Standing" "confidence" "J" (.long (rr.1)) ∧ Fld Z h o0 "com/example/uriel/uriel/Standing" "rung" "I" (.int (rr.2.1)) ∧ Fld Z h o0 "com/example/uriel/uriel/Standing" "connections" "J" (.long (rr.2.2.1)) ∧ Fld Z h o0 "com/example/uriel/uriel/Standing" "disconnections" "J" (.long (rr.2.2.2.1)) ∧ Fld Z h o0 "com/example/uriel/uriel/Standing" "maliciousAttempts" "J" (.long (rr.2.2.2.2.1)) ∧ Fld Z h o0 "com/example/uriel/uriel/Standing" "idleDisconnections" "J" (.long (rr.2.2.2.2.2))
def f2_0 (x1 : Int64) (x3 : Int32) (x4 : Int64) (x6 : Int64) (x8 : Int64) (x10 : Int64) : Option (Int64 × Int32 × Int64 × Int64 × Int64 × Int64) := (f3_0.bind fun rr1 => (some (x1, x3, x4, x6, x8, x10)))
set_option maxRecDepth 65536 in
set_option maxHeartbeats 40000000 in
theorem b2_0 {p : Program} {l : Launch} {e : Env} {s : State} {m : MethodId} {args : Array Value} {below : List Frame} {meth : Method} {c : Code} {Z : State} {a0 : Array Value} {h0 : Heap} {n0 : Nat} {P : Option Value → Heap → List Loc → Prop} (hw : ∀ d ∈ tables_1, d.before a0 Z = true) (C : own_Ctx p s m meth c Z (⟨"com/example/uriel/uriel/Standing", "<init>", "(JIJJJJ)V"⟩ : MethodName) prog_16_method_1_code 12 none) (Z0 : n0 ≤ h0.size) {o0 : Nat}  (rr : Int64 × Int32 × Int64 × Int64 × Int64 × Int64) (hP : ∀ v h L, Fr n0 L → Keep h0 h [o0] → E2 Z h0 o0 rr v h → P v h L)
    {T : State} {locs : List Loc} {h : Heap} {c_o0_confidence : Int64} {c_o0_rung : Int32} {c_o0_connections : Int64} {c_o0_disconnections : Int64} {c_o0_maliciousAttempts : Int64} {c_o0_idleDisconnections : Int64} (X : Stand p l e rmR2 s m args below meth c T locs 0 0) (e0 : T.heap = h) (N : Fr n0 locs) (K : Keep h0 h [o0]) (g_o0 : n0 ≤ o0) (E_o0 : Exa Z h o0 "com/example/uriel/uriel/Standing") (F_o0_confidence : Fld Z h o0 "com/example/uriel/uriel/Standing" "confidence" "J" (.long c_o0_confidence)) (F_o0_rung : Fld Z h o0 "com/example/uriel/uriel/Standing" "rung" "I" (.int c_o0_rung)) (F_o0_connections : Fld Z h o0 "com/example/uriel/uriel/Standing" "connections" "J" (.long c_o0_connections)) (F_o0_disconnections : Fld Z h o0 "com/example/uriel/uriel/Standing" "disconnections" "J" (.long c_o0_disconnections)) (F_o0_maliciousAttempts : Fld Z h o0 "com/example/uriel/uriel/Standing" "maliciousAttempts" "J" (.long c_o0_maliciousAttempts)) (F_o0_idleDisconnections : Fld Z h o0 "com/example/uriel/uriel/Standing" "idleDisconnections" "J" (.long c_o0_idleDisconnections)) (x1 : Int64) (x3 : Int32) (x4 : Int64) (x6 : Int64) (x8 : Int64) (x10 : Int64) (hv : f2_0 x1 x3 x4 x6 x8 x10 = some rr) :
    own_WP p e below (own_Q s P rmR2.cells rmR2.slots) T (mkF m 0 #[.val (.ref o0), .val (.long x1), .second, .val (.int x3), .val (.long x4), .second, .val (.long x6), .second, .val (.long x8), .second, .val (.long x10), .second] []) := by
  obtain ⟨hx, hZ, hby, hml, hown, hnm, hret, hlk⟩ := id C
  replace hown : s.vm.findClass "com/example/uriel/uriel/Standing" = some m.cls := hown
  unfold f2_0 at hv
  show own_WP p e below _ T (mkF m 0 #[.val (.ref o0), .val (.long x1), .second, .val (.int x3), .val (.long x4), .second, .val (.long x6), .second, .val (.long x8), .second, .val (.long x10), .second] [])
  refine own_go (fun _ => XS.aloadN X.here hx rfl (hb hby d2_0) rfl rfl) ?_
  show own_WP p e below _ T (mkF m 1 #[.val (.ref o0), .val (.long x1), .second, .val (.int x3), .val (.long x4), .second, .val (.long x6), .second, .val (.long x8), .second, .val (.long x10), .second] [(.ref o0)])
  obtain ⟨rr1, hf1, hv⟩ := own_bind hv
  obtain ⟨T1, v1, L1, X1, ⟨N1, K1, Q1⟩, st1⟩ := own_callN X C (a := o0) (argsL := []) (rm3 l Z a0 hw n0 h (by have q := K.1; omega) (o0 := o0) rr1 hf1) rfl (hw _ (List.mem_of_getElem? (i := 12) rfl)) (hw _ (List.mem_of_getElem? (i := 13) rfl)) (hw _ (List.mem_of_getElem? (i := 15) rfl)) (hw _ (List.mem_of_getElem? (i := 16) rfl)) (by decide) e0 (W := 0) (pc := 1) (Ls := #[.val (.ref o0), .val (.long x1), .second, .val (.int x3), .val (.long x4), .second, .val (.long x6), .second, .val (.long x8), .second, .val (.long x10), .second]) rfl (lenOf pd3 rfl) (rest := []) (stk := [(.ref o0)]) rfl (Nat.le_of_ble_eq_true rfl) (hb hby d2_1) (by decide) (by decide) (by decide) (by decide)
  replace N := Fr.app N N1
  replace E_o0 := E_o0.keep K1
  replace F_o0_confidence := F_o0_confidence.keep K1 nin0
  replace F_o0_rung := F_o0_rung.keep K1 nin0
  replace F_o0_connections := F_o0_connections.keep K1 nin0
  replace F_o0_disconnections := F_o0_disconnections.keep K1 nin0
  replace F_o0_maliciousAttempts := F_o0_maliciousAttempts.keep K1 nin0
  replace F_o0_idleDisconnections := F_o0_idleDisconnections.keep K1 nin0
  obtain ⟨rfl⟩ := Q1
  replace K := K.trans K1 all0
  refine own_go st1 ?_
  show own_WP p e below _ T1 (mkF m 4 #[.val (.ref o0), .val (.long x1), .second, .val (.int x3), .val (.long x4), .second, .val (.long x6), .second, .val (.long x8), .second, .val (.long x10), .second] [])
  refine own_go (fun _ => XS.aloadN X1.here hx rfl (hb hby d2_4) rfl rfl) ?_
  show own_WP p e below _ T1 (mkF m 5 #[.val (.ref o0), .val (.long x1), .second, .val (.int x3), .val (.long x4), .second, .val (.long x6), .second, .val (.long x8), .second, .val (.long x10), .second] [(.ref o0)])
  refine own_go (fun _ => XS.lloadN X1.here hx rfl (hb hby d2_5) rfl) ?_
  show own_WP p e below _ T1 (mkF m 6 #[.val (.ref o0), .val (.long x1), .second, .val (.int x3), .val (.long x4), .second, .val (.long x6), .second, .val (.long x8), .second, .val (.long x10), .second] [(.long x1), (.ref o0)])
  obtain ⟨T2, h2, X2, e2, W2, st2⟩ := putF X1 hx hZ hown (host := "") (Or.inl (hw _ (List.mem_of_getElem? (i := 20) rfl))) Via.refl (rfl : T1.heap = T1.heap) F_o0_confidence E_o0 (Or.inr ⟨(hw _ (List.mem_of_getElem? (i := 21) rfl)), rfl, hnm⟩) (hw _ (List.mem_of_getElem? (i := 7) rfl)) (ty := .long) (by decide) rfl rfl (g := (mkF m 6 #[.val (.ref o0), .val (.long x1), .second, .val (.int x3), .val (.long x4), .second, .val (.long x6), .second, .val (.long x8), .second, .val (.long x10), .second] [(.long x1), (.ref o0)])) rfl rfl (hb hby d2_6)
  refine own_go st2 ?_
  replace E_o0 := E_o0.wr W2
  replace F_o0_confidence := F_o0_confidence.same W2
  replace F_o0_rung := F_o0_rung.other W2 (Or.inr (slot_ne (Or.inr (hw _ (List.mem_of_getElem? (i := 23) rfl))) (Or.inr (hw _ (List.mem_of_getElem? (i := 21) rfl))) (by decide) (t := .int) (t' := .long) (by decide) (by decide)))
  replace F_o0_connections := F_o0_connections.other W2 (Or.inr (slot_ne (Or.inr (hw _ (List.mem_of_getElem? (i := 25) rfl))) (Or.inr (hw _ (List.mem_of_getElem? (i := 21) rfl))) (by decide) (t := .long) (t' := .long) (by decide) (by decide)))
  replace F_o0_disconnections := F_o0_disconnections.other W2 (Or.inr (slot_ne (Or.inr (hw _ (List.mem_of_getElem? (i := 27) rfl))) (Or.inr (hw _ (List.mem_of_getElem? (i := 21) rfl))) (by decide) (t := .long) (t' := .long) (by decide) (by decide)))
  replace F_o0_maliciousAttempts := F_o0_maliciousAttempts.other W2 (Or.inr (slot_ne (Or.inr (hw _ (List.mem_of_getElem? (i := 29) rfl))) (Or.inr (hw _ (List.mem_of_getElem? (i := 21) rfl))) (by decide) (t := .long) (t' := .long) (by decide) (by decide)))
  replace F_o0_idleDisconnections := F_o0_idleDisconnections.other W2 (Or.inr (slot_ne (Or.inr (hw _ (List.mem_of_getElem? (i := 31) rfl))) (Or.inr (hw _ (List.mem_of_getElem? (i := 21) rfl))) (by decide) (t := .long) (t' := .long) (by decide) (by decide)))
  replace K := K.wr W2 (Or.inl (List.mem_of_getElem? (i := 0) rfl))
  replace N := Fr.snoc X2 N (by omega)
  show own_WP p e below _ T2 (mkF m 9 #[.val (.ref o0), .val (.long x1), .second, .val (.int x3), .val (.long x4), .second, .val (.long x6), .second, .val (.long x8), .second, .val (.long x10), .second] [])
  refine own_go (fun _ => XS.aloadN X2.here hx rfl (hb hby d2_9) rfl rfl) ?_
  show own_WP p e below _ T2 (mkF m 10 #[.val (.ref o0), .val (.long x1), .second, .val (.int x3), .val (.long x4), .second, .val (.long x6), .second, .val (.long x8), .second, .val (.long x10), .second] [(.ref o0)])
  refine own_go (fun _ => XS.iloadN X2.here hx rfl (hb hby d2_10) rfl) ?_
  show own_WP p e below _ T2 (mkF m 11 #[.val (.ref o0), .val (.long x1), .second, .val (.int x3), .val (.long x4), .second, .val (.long x6), .second, .val (.long x8), .second, .val (.long x10), .second] [(.int x3), (.ref o0)])
  obtain ⟨T3, h3, X3, e3, W3, st3⟩ := putF X2 hx hZ hown (host := "") (Or.inl (hw _ (List.mem_of_getElem? (i := 22) rfl))) Via.refl e2 F_o0_rung E_o0 (Or.inr ⟨(hw _ (List.mem_of_getElem? (i := 23) rfl)), rfl, hnm⟩) (hw _ (List.mem_of_getElem? (i := 7) rfl)) (ty := .int) (by decide) rfl rfl (g := (mkF m 11 #[.val (.ref o0), .val (.long x1), .second, .val (.int x3), .val (.long x4), .second, .val (.long x6), .second, .val (.long x8), .second, .val (.long x10), .second] [(.int x3), (.ref o0)])) rfl rfl (hb hby d2_11)
  refine own_go st3 ?_
  replace E_o0 := E_o0.wr W3
  replace F_o0_confidence := F_o0_confidence.other W3 (Or.inr (slot_ne (Or.inr (hw _ (List.mem_of_getElem? (i := 21) rfl))) (Or.inr (hw _ (List.mem_of_getElem? (i := 23) rfl))) (by decide) (t := .long) (t' := .int) (by decide) (by decide)))
  replace F_o0_rung := F_o0_rung.same W3
  replace F_o0_connections := F_o0_connections.other W3 (Or.inr (slot_ne (Or.inr (hw _ (List.mem_of_getElem? (i := 25) rfl))) (Or.inr (hw _ (List.mem_of_getElem? (i := 23) rfl))) (by decide) (t := .long) (t' := .int) (by decide) (by decide)))
  replace F_o0_disconnections := F_o0_disconnections.other W3 (Or.inr (slot_ne (Or.inr (hw _ (List.mem_of_getElem? (i := 27) rfl))) (Or.inr (hw _ (List.mem_of_getElem? (i := 23) rfl))) (by decide) (t := .long) (t' := .int) (by decide) (by decide)))
  replace F_o0_maliciousAttempts := F_o0_maliciousAttempts.other W3 (Or.inr (slot_ne (Or.inr (hw _ (List.mem_of_getElem? (i := 29) rfl))) (Or.inr (hw _ (List.mem_of_getElem? (i := 23) rfl))) (by decide) (t := .long) (t' := .int) (by decide) (by decide)))
  replace F_o0_idleDisconnections := F_o0_idleDisconnections.other W3 (Or.inr (slot_ne (Or.inr (hw _ (List.mem_of_getElem? (i := 31) rfl))) (Or.inr (hw _ (List.mem_of_getElem? (i := 23) rfl))) (by decide) (t := .long) (t' := .int) (by decide) (by decide)))
  replace K := K.wr W3 (Or.inl (List.mem_of_getElem? (i := 0) rfl))
  replace N := Fr.snoc X3 N (by omega)
  show own_WP p e below _ T3 (mkF m 14 #[.val (.ref o0), .val (.long x1), .second, .val (.int x3), .val (.long x4), .second, .val (.long x6), .second, .val (.long x8), .second, .val (.long x10), .second] [])
  refine own_go (fun _ => XS.aloadN X3.here hx rfl (hb hby d2_14) rfl rfl) ?_
  show own_WP p e below _ T3 (mkF m 15 #[.val (.ref o0), .val (.long x1), .second, .val (.int x3), .val (.long x4), .second, .val (.long x6), .second, .val (.long x8), .second, .val (.long x10), .second] [(.ref o0)])
  refine own_go (fun _ => XS.lload X3.here hx rfl (hb hby d2_15) rfl) ?_
  show own_WP p e below _ T3 (mkF m 17 #[.val (.ref o0), .val (.long x1), .second, .val (.int x3), .val (.long x4), .second, .val (.long x6), .second, .val (.long x8), .second, .val (.long x10), .second] [(.long x4), (.ref o0)])
  obtain ⟨T4, h4, X4, e4, W4, st4⟩ := putF X3 hx hZ hown (host := "") (Or.inl (hw _ (List.mem_of_getElem? (i := 24) rfl))) Via.refl e3 F_o0_connections E_o0 (Or.inr ⟨(hw _ (List.mem_of_getElem? (i := 25) rfl)), rfl, hnm⟩) (hw _ (List.mem_of_getElem? (i := 7) rfl)) (ty := .long) (by decide) rfl rfl (g := (mkF m 17 #[.val (.ref o0), .val (.long x1), .second, .val (.int x3), .val (.long x4), .second, .val (.long x6), .second, .val (.long x8), .second, .val (.long x10), .second] [(.long x4), (.ref o0)])) rfl rfl (hb hby d2_17)
  refine own_go st4 ?_
  replace E_o0 := E_o0.wr W4
  replace F_o0_confidence := F_o0_confidence.other W4 (Or.inr (slot_ne (Or.inr (hw _ (List.mem_of_getElem? (i := 21) rfl))) (Or.inr (hw _ (List.mem_of_getElem? (i := 25) rfl))) (by decide) (t := .long) (t' := .long) (by decide) (by decide)))
  replace F_o0_rung := F_o0_rung.other W4 (Or.inr (slot_ne (Or.inr (hw _ (List.mem_of_getElem? (i := 23) rfl))) (Or.inr (hw _ (List.mem_of_getElem? (i := 25) rfl))) (by decide) (t := .int) (t' := .long) (by decide) (by decide)))
  replace F_o0_connections := F_o0_connections.same W4
  replace F_o0_disconnections := F_o0_disconnections.other W4 (Or.inr (slot_ne (Or.inr (hw _ (List.mem_of_getElem? (i := 27) rfl))) (Or.inr (hw _ (List.mem_of_getElem? (i := 25) rfl))) (by decide) (t := .long) (t' := .long) (by decide) (by decide)))
  replace F_o0_maliciousAttempts := F_o0_maliciousAttempts.other W4 (Or.inr (slot_ne (Or.inr (hw _ (List.mem_of_getElem? (i := 29) rfl))) (Or.inr (hw _ (List.mem_of_getElem? (i := 25) rfl))) (by decide) (t := .long) (t' := .long) (by decide) (by decide)))
  replace F_o0_idleDisconnections := F_o0_idleDisconnections.other W4 (Or.inr (slot_ne (Or.inr (hw _ (List.mem_of_getElem? (i := 31) rfl))) (Or.inr (hw _ (List.mem_of_getElem? (i := 25) rfl))) (by decide) (t := .long) (t' := .long) (by decide) (by decide)))
  replace K := K.wr W4 (Or.inl (List.mem_of_getElem? (i := 0) rfl))
  replace N := Fr.snoc X4 N (by omega)
  show own_WP p e below _ T4 (mkF m 20 #[.val (.ref o0), .val (.long x1), .second, .val (.int x3), .val (.long x4), .second, .val (.long x6), .second, .val (.long x8), .second, .val (.long x10), .second] [])
  refine own_go (fun _ => XS.aloadN X4.here hx rfl (hb hby d2_20) rfl rfl) ?_
  show own_WP p e below _ T4 (mkF m 21 #[.val (.ref o0), .val (.long x1), .second, .val (.int x3), .val (.long x4), .second, .val (.long x6), .second, .val (.long x8), .second, .val (.long x10), .second] [(.ref o0)])
  refine own_go (fun _ => XS.lload X4.here hx rfl (hb hby d2_21) rfl) ?_
  show own_WP p e below _ T4 (mkF m 23 #[.val (.ref o0), .val (.long x1), .second, .val (.int x3), .val (.long x4), .second, .val (.long x6), .second, .val (.long x8), .second, .val (.long x10), .second] [(.long x6), (.ref o0)])
  obtain ⟨T5, h5, X5, e5, W5, st5⟩ := putF X4 hx hZ hown (host := "") (Or.inl (hw _ (List.mem_of_getElem? (i := 26) rfl))) Via.refl e4 F_o0_disconnections E_o0 (Or.inr ⟨(hw _ (List.mem_of_getElem? (i := 27) rfl)), rfl, hnm⟩) (hw _ (List.mem_of_getElem? (i := 7) rfl)) (ty := .long) (by decide) rfl rfl (g := (mkF m 23 #[.val (.ref o0), .val (.long x1), .second, .val (.int x3), .val (.long x4), .second, .val (.long x6), .second, .val (.long x8), .second, .val (.long x10), .second] [(.long x6), (.ref o0)])) rfl rfl (hb hby d2_23)
  refine own_go st5 ?_
  replace E_o0 := E_o0.wr W5
  replace F_o0_confidence := F_o0_confidence.other W5 (Or.inr (slot_ne (Or.inr (hw _ (List.mem_of_getElem? (i := 21) rfl))) (Or.inr (hw _ (List.mem_of_getElem? (i := 27) rfl))) (by decide) (t := .long) (t' := .long) (by decide) (by decide)))
  replace F_o0_rung := F_o0_rung.other W5 (Or.inr (slot_ne (Or.inr (hw _ (List.mem_of_getElem? (i := 23) rfl))) (Or.inr (hw _ (List.mem_of_getElem? (i := 27) rfl))) (by decide) (t := .int) (t' := .long) (by decide) (by decide)))
  replace F_o0_connections := F_o0_connections.other W5 (Or.inr (slot_ne (Or.inr (hw _ (List.mem_of_getElem? (i := 25) rfl))) (Or.inr (hw _ (List.mem_of_getElem? (i := 27) rfl))) (by decide) (t := .long) (t' := .long) (by decide) (by decide)))
  replace F_o0_disconnections := F_o0_disconnections.same W5
  replace F_o0_maliciousAttempts := F_o0_maliciousAttempts.other W5 (Or.inr (slot_ne (Or.inr (hw _ (List.mem_of_getElem? (i := 29) rfl))) (Or.inr (hw _ (List.mem_of_getElem? (i := 27) rfl))) (by decide) (t := .long) (t' := .long) (by decide) (by decide)))
  replace F_o0_idleDisconnections := F_o0_idleDisconnections.other W5 (Or.inr (slot_ne (Or.inr (hw _ (List.mem_of_getElem? (i := 31) rfl))) (Or.inr (hw _ (List.mem_of_getElem? (i := 27) rfl))) (by decide) (t := .long) (t' := .long) (by decide) (by decide)))
  replace K := K.wr W5 (Or.inl (List.mem_of_getElem? (i := 0) rfl))
  replace N := Fr.snoc X5 N (by omega)
  show own_WP p e below _ T5 (mkF m 26 #[.val (.ref o0), .val (.long x1), .second, .val (.int x3), .val (.long x4), .second, .val (.long x6), .second, .val (.long x8), .second, .val (.long x10), .second] [])
  refine own_go (fun _ => XS.aloadN X5.here hx rfl (hb hby d2_26) rfl rfl) ?_
  show own_WP p e below _ T5 (mkF m 27 #[.val (.ref o0), .val (.long x1), .second, .val (.int x3), .val (.long x4), .second, .val (.long x6), .second, .val (.long x8), .second, .val (.long x10), .second] [(.ref o0)])
  refine own_go (fun _ => XS.lload X5.here hx rfl (hb hby d2_27) rfl) ?_
  show own_WP p e below _ T5 (mkF m 29 #[.val (.ref o0), .val (.long x1), .second, .val (.int x3), .val (.long x4), .second, .val (.long x6), .second, .val (.long x8), .second, .val (.long x10), .second] [(.long x8), (.ref o0)])
  obtain ⟨T6, h6, X6, e6, W6, st6⟩ := putF X5 hx hZ hown (host := "") (Or.inl (hw _ (List.mem_of_getElem? (i := 28) rfl))) Via.refl e5 F_o0_maliciousAttempts E_o0 (Or.inr ⟨(hw _ (List.mem_of_getElem? (i := 29) rfl)), rfl, hnm⟩) (hw _ (List.mem_of_getElem? (i := 7) rfl)) (ty := .long) (by decide) rfl rfl (g := (mkF m 29 #[.val (.ref o0), .val (.long x1), .second, .val (.int x3), .val (.long x4), .second, .val (.long x6), .second, .val (.long x8), .second, .val (.long x10), .second] [(.long x8), (.ref o0)])) rfl rfl (hb hby d2_29)
  refine own_go st6 ?_
  replace E_o0 := E_o0.wr W6
  replace F_o0_confidence := F_o0_confidence.other W6 (Or.inr (slot_ne (Or.inr (hw _ (List.mem_of_getElem? (i := 21) rfl))) (Or.inr (hw _ (List.mem_of_getElem? (i := 29) rfl))) (by decide) (t := .long) (t' := .long) (by decide) (by decide)))
  replace F_o0_rung := F_o0_rung.other W6 (Or.inr (slot_ne (Or.inr (hw _ (List.mem_of_getElem? (i := 23) rfl))) (Or.inr (hw _ (List.mem_of_getElem? (i := 29) rfl))) (by decide) (t := .int) (t' := .long) (by decide) (by decide)))
  replace F_o0_connections := F_o0_connections.other W6 (Or.inr (slot_ne (Or.inr (hw _ (List.mem_of_getElem? (i := 25) rfl))) (Or.inr (hw _ (List.mem_of_getElem? (i := 29) rfl))) (by decide) (t := .long) (t' := .long) (by decide) (by decide)))
  replace F_o0_disconnections := F_o0_disconnections.other W6 (Or.inr (slot_ne (Or.inr (hw _ (List.mem_of_getElem? (i := 27) rfl))) (Or.inr (hw _ (List.mem_of_getElem? (i := 29) rfl))) (by decide) (t := .long) (t' := .long) (by decide) (by decide)))
  replace F_o0_maliciousAttempts := F_o0_maliciousAttempts.same W6
  replace F_o0_idleDisconnections := F_o0_idleDisconnections.other W6 (Or.inr (slot_ne (Or.inr (hw _ (List.mem_of_getElem? (i := 31) rfl))) (Or.inr (hw _ (List.mem_of_getElem? (i := 29) rfl))) (by decide) (t := .long) (t' := .long) (by decide) (by decide)))
  replace K := K.wr W6 (Or.inl (List.mem_of_getElem? (i := 0) rfl))
  replace N := Fr.snoc X6 N (by omega)
  show own_WP p e below _ T6 (mkF m 32 #[.val (.ref o0), .val (.long x1), .second, .val (.int x3), .val (.long x4), .second, .val (.long x6), .second, .val (.long x8), .second, .val (.long x10), .second] [])
  refine own_go (fun _ => XS.aloadN X6.here hx rfl (hb hby d2_32) rfl rfl) ?_
  show own_WP p e below _ T6 (mkF m 33 #[.val (.ref o0), .val (.long x1), .second, .val (.int x3), .val (.long x4), .second, .val (.long x6), .second, .val (.long x8), .second, .val (.long x10), .second] [(.ref o0)])
  refine own_go (fun _ => XS.lload X6.here hx rfl (hb hby d2_33) rfl) ?_
  show own_WP p e below _ T6 (mkF m 35 #[.val (.ref o0), .val (.long x1), .second, .val (.int x3), .val (.long x4), .second, .val (.long x6), .second, .val (.long x8), .second, .val (.long x10), .second] [(.long x10), (.ref o0)])
  obtain ⟨T7, h7, X7, e7, W7, st7⟩ := putF X6 hx hZ hown (host := "") (Or.inl (hw _ (List.mem_of_getElem? (i := 30) rfl))) Via.refl e6 F_o0_idleDisconnections E_o0 (Or.inr ⟨(hw _ (List.mem_of_getElem? (i := 31) rfl)), rfl, hnm⟩) (hw _ (List.mem_of_getElem? (i := 7) rfl)) (ty := .long) (by decide) rfl rfl (g := (mkF m 35 #[.val (.ref o0), .val (.long x1), .second, .val (.int x3), .val (.long x4), .second, .val (.long x6), .second, .val (.long x8), .second, .val (.long x10), .second] [(.long x10), (.ref o0)])) rfl rfl (hb hby d2_35)
  refine own_go st7 ?_
  replace E_o0 := E_o0.wr W7
  replace F_o0_confidence := F_o0_confidence.other W7 (Or.inr (slot_ne (Or.inr (hw _ (List.mem_of_getElem? (i := 21) rfl))) (Or.inr (hw _ (List.mem_of_getElem? (i := 31) rfl))) (by decide) (t := .long) (t' := .long) (by decide) (by decide)))
  replace F_o0_rung := F_o0_rung.other W7 (Or.inr (slot_ne (Or.inr (hw _ (List.mem_of_getElem? (i := 23) rfl))) (Or.inr (hw _ (List.mem_of_getElem? (i := 31) rfl))) (by decide) (t := .int) (t' := .long) (by decide) (by decide)))
  replace F_o0_connections := F_o0_connections.other W7 (Or.inr (slot_ne (Or.inr (hw _ (List.mem_of_getElem? (i := 25) rfl))) (Or.inr (hw _ (List.mem_of_getElem? (i := 31) rfl))) (by decide) (t := .long) (t' := .long) (by decide) (by decide)))
  replace F_o0_disconnections := F_o0_disconnections.other W7 (Or.inr (slot_ne (Or.inr (hw _ (List.mem_of_getElem? (i := 27) rfl))) (Or.inr (hw _ (List.mem_of_getElem? (i := 31) rfl))) (by decide) (t := .long) (t' := .long) (by decide) (by decide)))
  replace F_o0_maliciousAttempts := F_o0_maliciousAttempts.other W7 (Or.inr (slot_ne (Or.inr (hw _ (List.mem_of_getElem? (i := 29) rfl))) (Or.inr (hw _ (List.mem_of_getElem? (i := 31) rfl))) (by decide) (t := .long) (t' := .long) (by decide) (by decide)))
  replace F_o0_idleDisconnections := F_o0_idleDisconnections.same W7
  replace K := K.wr W7 (Or.inl (List.mem_of_getElem? (i := 0) rfl))
  replace N := Fr.snoc X7 N (by omega)
  show own_WP p e below _ T7 (mkF m 38 #[.val (.ref o0), .val (.long x1), .second, .val (.int x3), .val (.long x4), .second, .val (.long x6), .second, .val (.long x8), .second, .val (.long x10), .second] [])
  obtain rfl := Option.some.inj hv
  subst e7
  exact own_retV X7 C (hb hby d2_38) (hP _ _ _ N K ⟨rfl, E_o0, F_o0_confidence, F_o0_rung, F_o0_connections, F_o0_disconnections, F_o0_maliciousAttempts, F_o0_idleDisconnections⟩) (by decide) (by decide)
theorem ef2 (m : MethodId) (o0 : Nat) (x1 : Int64) (x3 : Int32) (x4 : Int64) (x6 : Int64) (x8 : Int64) (x10 : Int64) : entryFrame m #[(.ref o0), (.long x1), (.int x3), (.long x4), (.long x6), (.long x8), (.long x10)] 12 = (mkF m 0 #[.val (.ref o0), .val (.long x1), .second, .val (.int x3), .val (.long x4), .second, .val (.long x6), .second, .val (.long x8), .second, .val (.long x10), .second] []) := by first | (simp [entryFrame, mkF, argsToLocals, Value.category]; done) | rfl
theorem pd2 : parseMethodDescriptor "(JIJJJJ)V" = some ⟨[.long, .int, .long, .long, .long, .long], none⟩ := by decide +kernel
theorem pn2 : plainFor (⟨"com/example/uriel/uriel/Standing", "<init>", "(JIJJJJ)V"⟩ : MethodName) = true := plainFor_of_name (by first | (simp [plainName, overriddenIn]; done) | decide +kernel)
theorem rm2 (l : Launch) (Z : State) (a0 : Array Value) (hw : ∀ d ∈ tables_1, d.before a0 Z = true) (n0 : Nat) (h0 : Heap) (Z0 : n0 ≤ h0.size) {o0 : Nat} {c_o0_confidence : Int64} {c_o0_rung : Int32} {c_o0_connections : Int64} {c_o0_disconnections : Int64} {c_o0_maliciousAttempts : Int64} {c_o0_idleDisconnections : Int64}  (g_o0 : n0 ≤ o0) (E_o0 : Exa Z h0 o0 "com/example/uriel/uriel/Standing") (F_o0_confidence : Fld Z h0 o0 "com/example/uriel/uriel/Standing" "confidence" "J" (.long c_o0_confidence)) (F_o0_rung : Fld Z h0 o0 "com/example/uriel/uriel/Standing" "rung" "I" (.int c_o0_rung)) (F_o0_connections : Fld Z h0 o0 "com/example/uriel/uriel/Standing" "connections" "J" (.long c_o0_connections)) (F_o0_disconnections : Fld Z h0 o0 "com/example/uriel/uriel/Standing" "disconnections" "J" (.long c_o0_disconnections)) (F_o0_maliciousAttempts : Fld Z h0 o0 "com/example/uriel/uriel/Standing" "maliciousAttempts" "J" (.long c_o0_maliciousAttempts)) (F_o0_idleDisconnections : Fld Z h0 o0 "com/example/uriel/uriel/Standing" "idleDisconnections" "J" (.long c_o0_idleDisconnections)) (x1 : Int64) (x3 : Int32) (x4 : Int64) (x6 : Int64) (x8 : Int64) (x10 : Int64)  (rr : Int64 × Int32 × Int64 × Int64 × Int64 × Int64) (hf : f2_0 x1 x3 x4 x6 x8 x10 = some rr) :
    own_Met l Z (⟨"com/example/uriel/uriel/Standing", "<init>", "(JIJJJJ)V"⟩ : MethodName) prog_16_method_1_code 12 none [] rmR2 #[(.ref o0), (.long x1), (.int x3), (.long x4), (.long x6), (.long x8), (.long x10)] h0 (fun v h L => Fr n0 L ∧ Keep h0 h [o0] ∧ E2 Z h0 o0 rr v h) := by
  refine own_body pn2 ?_
  intro p e s m below meth c s₁ C X e0
  exact own_cast (ef2 m o0 x1 x3 x4 x6 x8 x10) (b2_0 hw C Z0 rr (fun v h L a b c => ⟨a, b, c⟩) X e0 (Fr.nil n0) (Keep.refl h0 [o0]) g_o0 E_o0 F_o0_confidence F_o0_rung F_o0_connections F_o0_disconnections F_o0_maliciousAttempts F_o0_idleDisconnections x1 x3 x4 x6 x8 x10 hf)
theorem d5_0 : decode prog_16_method_4_code 0 = .ok (.aload_n 0, 1) := by decide +kernel
theorem d5_1 : decode prog_16_method_4_code 1 = .ok (.getfield 17, 3) := by decide +kernel
theorem d5_4 : decode prog_16_method_4_code 4 = .ok (.aload_n 0, 1) := by decide +kernel
theorem d5_5 : decode prog_16_method_4_code 5 = .ok (.getfield 20, 3) := by decide +kernel
theorem d5_8 : decode prog_16_method_4_code 8 = .ok (.aload_n 0, 1) := by decide +kernel
theorem d5_9 : decode prog_16_method_4_code 9 = .ok (.getfield 26, 3) := by decide +kernel
theorem d5_12 : decode prog_16_method_4_code 12 = .ok (.ladd, 1) := by decide +kernel
theorem d5_13 : decode prog_16_method_4_code 13 = .ok (.lcmp, 1) := by decide +kernel
theorem d5_14 : decode prog_16_method_4_code 14 = .ok (.ifCond .le 7, 3) := by decide +kernel
theorem d5_17 : decode prog_16_method_4_code 17 = .ok (.iconst 1, 1) := by decide +kernel
theorem d5_18 : decode prog_16_method_4_code 18 = .ok (.goto 4, 3) := by decide +kernel
theorem d5_21 : decode prog_16_method_4_code 21 = .ok (.iconst 0, 1) := by decide +kernel
theorem d5_22 : decode prog_16_method_4_code 22 = .ok (.ireturn, 1) := by decide +kernel
def rmR5 : Room := { frames := 0, cells := 0, slots := 0, locals := 0 }
def E5 (Z : State) (h0 : Heap) (o0 : Nat) (s_confidence : Int64) (s_rung : Int32) (s_connections : Int64) (s_disconnections : Int64) (s_maliciousAttempts : Int64) (s_idleDisconnections : Int64) (rr : Int32) (v : Option Value) (h : Heap) : Prop := v = some (.int rr)
def f5_0 (s_connections : Int64) (s_disconnections : Int64) (s_idleDisconnections : Int64) : Option (Int32) := (if (s_disconnections + s_idleDisconnections) < s_connections then (some (1 : Int32)) else (some (0 : Int32)))
set_option maxRecDepth 65536 in
set_option maxHeartbeats 40000000 in
theorem b5_0 {p : Program} {l : Launch} {e : Env} {s : State} {m : MethodId} {args : Array Value} {below : List Frame} {meth : Method} {c : Code} {Z : State} {a0 : Array Value} {h0 : Heap} {n0 : Nat} {P : Option Value → Heap → List Loc → Prop} (hw : ∀ d ∈ tables_1, d.before a0 Z = true) (C : own_Ctx p s m meth c Z (⟨"com/example/uriel/uriel/Standing", "connected", "()Z"⟩ : MethodName) prog_16_method_4_code 1 (some .boolean)) (Z0 : n0 ≤ h0.size) {o0 : Nat} {s_confidence : Int64} {s_rung : Int32} {s_connections : Int64} {s_disconnections : Int64} {s_maliciousAttempts : Int64} {s_idleDisconnections : Int64} (rr : Int32) (hP : ∀ v h L, Fr n0 L → Keep h0 h [] → E5 Z h0 o0 s_confidence s_rung s_connections s_disconnections s_maliciousAttempts s_idleDisconnections rr v h → P v h L)
    {T : State} {locs : List Loc} {h : Heap} (X : Stand p l e rmR5 s m args below meth c T locs 0 0) (e0 : T.heap = h) (N : Fr n0 locs) (K : Keep h0 h []) (g_o0 : n0 ≤ o0) (E_o0 : Exa Z h o0 "com/example/uriel/uriel/Standing") (F_o0_confidence : Fld Z h o0 "com/example/uriel/uriel/Standing" "confidence" "J" (.long s_confidence)) (F_o0_rung : Fld Z h o0 "com/example/uriel/uriel/Standing" "rung" "I" (.int s_rung)) (F_o0_connections : Fld Z h o0 "com/example/uriel/uriel/Standing" "connections" "J" (.long s_connections)) (F_o0_disconnections : Fld Z h o0 "com/example/uriel/uriel/Standing" "disconnections" "J" (.long s_disconnections)) (F_o0_maliciousAttempts : Fld Z h o0 "com/example/uriel/uriel/Standing" "maliciousAttempts" "J" (.long s_maliciousAttempts)) (F_o0_idleDisconnections : Fld Z h o0 "com/example/uriel/uriel/Standing" "idleDisconnections" "J" (.long s_idleDisconnections)) (hv : f5_0 s_connections s_disconnections s_idleDisconnections = some rr) :
    own_WP p e below (own_Q s P rmR5.cells rmR5.slots) T (mkF m 0 #[.val (.ref o0)] []) := by
  obtain ⟨hx, hZ, hby, hml, hown, hnm, hret, hlk⟩ := id C
  replace hown : s.vm.findClass "com/example/uriel/uriel/Standing" = some m.cls := hown
  unfold f5_0 at hv
  show own_WP p e below _ T (mkF m 0 #[.val (.ref o0)] [])
  refine own_go (fun _ => XS.aloadN X.here hx rfl (hb hby d5_0) rfl rfl) ?_
  show own_WP p e below _ T (mkF m 1 #[.val (.ref o0)] [(.ref o0)])
  obtain ⟨T1, X1, e1, st1⟩ := getF X hx hZ hown (host := "") (Or.inl (hw _ (List.mem_of_getElem? (i := 24) rfl))) Via.refl e0 F_o0_connections (g := (mkF m 1 #[.val (.ref o0)] [(.ref o0)])) rfl rfl (hb hby d5_1)
  refine own_go st1 ?_
  show own_WP p e below _ T1 (mkF m 4 #[.val (.ref o0)] [(.long s_connections)])
  refine own_go (fun _ => XS.aloadN X1.here hx rfl (hb hby d5_4) rfl rfl) ?_
  show own_WP p e below _ T1 (mkF m 5 #[.val (.ref o0)] [(.ref o0), (.long s_connections)])
  obtain ⟨T2, X2, e2, st2⟩ := getF X1 hx hZ hown (host := "") (Or.inl (hw _ (List.mem_of_getElem? (i := 26) rfl))) Via.refl e1 F_o0_disconnections (g := (mkF m 5 #[.val (.ref o0)] [(.ref o0), (.long s_connections)])) rfl rfl (hb hby d5_5)
  refine own_go st2 ?_
  show own_WP p e below _ T2 (mkF m 8 #[.val (.ref o0)] [(.long s_disconnections), (.long s_connections)])
  refine own_go (fun _ => XS.aloadN X2.here hx rfl (hb hby d5_8) rfl rfl) ?_
  show own_WP p e below _ T2 (mkF m 9 #[.val (.ref o0)] [(.ref o0), (.long s_disconnections), (.long s_connections)])
  obtain ⟨T3, X3, e3, st3⟩ := getF X2 hx hZ hown (host := "") (Or.inl (hw _ (List.mem_of_getElem? (i := 30) rfl))) Via.refl e2 F_o0_idleDisconnections (g := (mkF m 9 #[.val (.ref o0)] [(.ref o0), (.long s_disconnections), (.long s_connections)])) rfl rfl (hb hby d5_9)
  refine own_go st3 ?_
  show own_WP p e below _ T3 (mkF m 12 #[.val (.ref o0)] [(.long s_idleDisconnections), (.long s_disconnections), (.long s_connections)])
  refine own_go (fun _ => XS.ladd X3.here hx rfl (hb hby d5_12) rfl) ?_
  show own_WP p e below _ T3 (mkF m 13 #[.val (.ref o0)] [(.long (s_disconnections + s_idleDisconnections)), (.long s_connections)])
  refine own_go (fun _ => XT.lcmp X3.here hx rfl (hb hby d5_13) rfl) ?_
  show own_WP p e below _ T3 (mkF m 14 #[.val (.ref o0)] [(.int (XT.cmpL s_connections (s_disconnections + s_idleDisconnections)))])
  by_cases h14 : (s_disconnections + s_idleDisconnections) < s_connections
  · replace hv := (if_pos h14).symm.trans hv
    refine own_go (fun _ => XS.ifNo X3.here hx rfl (hb hby d5_14) rfl (XT.ll_le_f h14)) ?_
    show own_WP p e below _ T3 (mkF m 17 #[.val (.ref o0)] [])
    refine own_go (fun _ => XS.iconst X3.here hx rfl (hb hby d5_17)) ?_
    show own_WP p e below _ T3 (mkF m 18 #[.val (.ref o0)] [(.int (1 : Int32))])
    refine own_go (fun _ => XS.goto X3.here hx rfl (pc0 := 18) (pc' := 22) rfl (hb hby d5_18) (by decide) (by decide)) ?_
    show own_WP p e below _ T3 (mkF m 22 #[.val (.ref o0)] [(.int (1 : Int32))])
    obtain rfl := Option.some.inj hv
    subst e3
    exact own_retN X3 C (by simp) (hb hby d5_22) (hP _ _ _ N K rfl) (by decide) (by decide)
  · replace hv := (if_neg h14).symm.trans hv
    refine own_go (fun _ => XS.ifYes X3.here hx rfl (pc0 := 14) (pc' := 21) rfl (hb hby d5_14) rfl (XT.ll_le_t h14) (by decide) (by decide)) ?_
    show own_WP p e below _ T3 (mkF m 21 #[.val (.ref o0)] [])
    refine own_go (fun _ => XS.iconst X3.here hx rfl (hb hby d5_21)) ?_
    show own_WP p e below _ T3 (mkF m 22 #[.val (.ref o0)] [(.int (0 : Int32))])
    obtain rfl := Option.some.inj hv
    subst e3
    exact own_retN X3 C (by simp) (hb hby d5_22) (hP _ _ _ N K rfl) (by decide) (by decide)
theorem ef5 (m : MethodId) (o0 : Nat) : entryFrame m #[(.ref o0)] 1 = (mkF m 0 #[.val (.ref o0)] []) := by first | (simp [entryFrame, mkF, argsToLocals, Value.category]; done) | rfl
theorem pd5 : parseMethodDescriptor "()Z" = some ⟨[], some .boolean⟩ := by decide +kernel
theorem pn5 : plainFor (⟨"com/example/uriel/uriel/Standing", "connected", "()Z"⟩ : MethodName) = true := plainFor_of_name (by first | (simp [plainName, overriddenIn]; done) | decide +kernel)
theorem rm5 (l : Launch) (Z : State) (a0 : Array Value) (hw : ∀ d ∈ tables_1, d.before a0 Z = true) (n0 : Nat) (h0 : Heap) (Z0 : n0 ≤ h0.size) {o0 : Nat} {s_confidence : Int64} {s_rung : Int32} {s_connections : Int64} {s_disconnections : Int64} {s_maliciousAttempts : Int64} {s_idleDisconnections : Int64}  (g_o0 : n0 ≤ o0) (E_o0 : Exa Z h0 o0 "com/example/uriel/uriel/Standing") (F_o0_confidence : Fld Z h0 o0 "com/example/uriel/uriel/Standing" "confidence" "J" (.long s_confidence)) (F_o0_rung : Fld Z h0 o0 "com/example/uriel/uriel/Standing" "rung" "I" (.int s_rung)) (F_o0_connections : Fld Z h0 o0 "com/example/uriel/uriel/Standing" "connections" "J" (.long s_connections)) (F_o0_disconnections : Fld Z h0 o0 "com/example/uriel/uriel/Standing" "disconnections" "J" (.long s_disconnections)) (F_o0_maliciousAttempts : Fld Z h0 o0 "com/example/uriel/uriel/Standing" "maliciousAttempts" "J" (.long s_maliciousAttempts)) (F_o0_idleDisconnections : Fld Z h0 o0 "com/example/uriel/uriel/Standing" "idleDisconnections" "J" (.long s_idleDisconnections))   (rr : Int32) (hf : f5_0 s_connections s_disconnections s_idleDisconnections = some rr) :
    own_Met l Z (⟨"com/example/uriel/uriel/Standing", "connected", "()Z"⟩ : MethodName) prog_16_method_4_code 1 (some .boolean) [] rmR5 #[(.ref o0)] h0 (fun v h L => Fr n0 L ∧ Keep h0 h [] ∧ E5 Z h0 o0 s_confidence s_rung s_connections s_disconnections s_maliciousAttempts s_idleDisconnections rr v h) := by
  refine own_body pn5 ?_
  intro p e s m below meth c s₁ C X e0
  exact own_cast (ef5 m o0) (b5_0 hw C Z0 rr (fun v h L a b c => ⟨a, b, c⟩) X e0 (Fr.nil n0) (Keep.refl h0 []) g_o0 E_o0 F_o0_confidence F_o0_rung F_o0_connections F_o0_disconnections F_o0_maliciousAttempts F_o0_idleDisconnections hf)
def E0 (Z : State) (h0 : Heap)   (rr : Int32) (v : Option Value) (h : Heap) : Prop := v = some (.int rr)
def f0_94 (c_b57_connections : Int64) (c_b57_disconnections : Int64) (c_b57_idleDisconnections : Int64) (t0 : Int32) : Option (Int32) := ((f5_0 c_b57_connections c_b57_disconnections c_b57_idleDisconnections).bind fun rr3 => (if rr3 = t0 then (some (1 : Int32)) else (some (0 : Int32))))
set_option maxRecDepth 65536 in
set_option maxHeartbeats 40000000 in
theorem b0_94 {p : Program} {l : Launch} {e : Env} {s : State} {m : MethodId} {args : Array Value} {below : List Frame} {meth : Method} {c : Code} {Z : State} {a0 : Array Value} {h0 : Heap} {n0 : Nat} {P : Option Value → Heap → List Loc → Prop} (hw : ∀ d ∈ tables_1, d.before a0 Z = true) (C : own_Ctx p s m meth c Z x code maxLocals ret) (Z0 : n0 ≤ h0.size)   (rr : Int32) (hP : ∀ v h L, Fr n0 L → Keep h0 h [] → E0 Z h0  rr v h → P v h L)
    {T : State} {locs : List Loc} {h : Heap} {b57 : Nat} {c_b57_confidence : Int64} {c_b57_rung : Int32} {c_b57_connections : Int64} {c_b57_disconnections : Int64} {c_b57_maliciousAttempts : Int64} {c_b57_idleDisconnections : Int64} (X : Stand p l e room_1 s m args below meth c T locs 1 6) (e0 : T.heap = h) (N : Fr n0 locs) (K : Keep h0 h []) (g_b57 : n0 ≤ b57) (z_b57 : h0.size ≤ b57) (E_b57 : Exa Z h b57 "com/example/uriel/uriel/Standing") (F_b57_confidence : Fld Z h b57 "com/example/uriel/uriel/Standing" "confidence" "J" (.long c_b57_confidence)) (F_b57_rung : Fld Z h b57 "com/example/uriel/uriel/Standing" "rung" "I" (.int c_b57_rung)) (F_b57_connections : Fld Z h b57 "com/example/uriel/uriel/Standing" "connections" "J" (.long c_b57_connections)) (F_b57_disconnections : Fld Z h b57 "com/example/uriel/uriel/Standing" "disconnections" "J" (.long c_b57_disconnections)) (F_b57_maliciousAttempts : Fld Z h b57 "com/example/uriel/uriel/Standing" "maliciousAttempts" "J" (.long c_b57_maliciousAttempts)) (F_b57_idleDisconnections : Fld Z h b57 "com/example/uriel/uriel/Standing" "idleDisconnections" "J" (.long c_b57_idleDisconnections)) (x0 : Int64) (x2 : Int32) (x3 : Int64) (x5 : Int64) (x7 : Int64) (x9 : Int64) (x11 : Int64) (x13 : Int64) (x15 : Int64) (s18 : Slot) (hs18 : One s18) (t0 : Int32) (hv : f0_94 c_b57_connections c_b57_disconnections c_b57_idleDisconnections t0 = some rr) :
    own_WP p e below (own_Q s P room_1.cells room_1.slots) T (mkF m 94 #[.val (.long x0), .second, .val (.int x2), .val (.long x3), .second, .val (.long x5), .second, .val (.long x7), .second, .val (.long x9), .second, .val (.long x11), .second, .val (.long x13), .second, .val (.long x15), .second, .val (.ref b57), s18] [(.int t0)]) := by
  obtain ⟨hx, hZ, hby, hml, hown, hnm, hret, hlk⟩ := id C
  replace hown : s.vm.findClass "com/example/uriel/uriel/StandingConnectedPinLaw" = some m.cls := hown
  unfold f0_94 at hv
  show own_WP p e below _ T (mkF m 94 #[.val (.long x0), .second, .val (.int x2), .val (.long x3), .second, .val (.long x5), .second, .val (.long x7), .second, .val (.long x9), .second, .val (.long x11), .second, .val (.long x13), .second, .val (.long x15), .second, .val (.ref b57), s18] [(.int t0)])
  refine own_go (fun _ => XS.istore X.here hx rfl (hb hby at_94) rfl (l' := #[.val (.long x0), .second, .val (.int x2), .val (.long x3), .second, .val (.long x5), .second, .val (.long x7), .second, .val (.long x9), .second, .val (.long x11), .second, .val (.long x13), .second, .val (.long x15), .second, .val (.ref b57), .val (.int t0)]) (XS.store1 (o := s18) rfl hs18 rfl)) ?_
  show own_WP p e below _ T (mkF m 96 #[.val (.long x0), .second, .val (.int x2), .val (.long x3), .second, .val (.long x5), .second, .val (.long x7), .second, .val (.long x9), .second, .val (.long x11), .second, .val (.long x13), .second, .val (.long x15), .second, .val (.ref b57), .val (.int t0)] [])
  refine own_go (fun _ => XS.aload X.here hx rfl (hb hby at_96) rfl rfl) ?_
  show own_WP p e below _ T (mkF m 98 #[.val (.long x0), .second, .val (.int x2), .val (.long x3), .second, .val (.long x5), .second, .val (.long x7), .second, .val (.long x9), .second, .val (.long x11), .second, .val (.long x13), .second, .val (.long x15), .second, .val (.ref b57), .val (.int t0)] [(.ref b57)])
  obtain ⟨rr3, hf3, hv⟩ := own_bind hv
  obtain ⟨T3, v3, L3, X3, ⟨N3, K3, Q3⟩, st3⟩ := own_callV X C (a := b57) (argsL := []) (rm5 l Z a0 hw n0 h (by have q := K.1; omega) (by omega) E_b57 F_b57_confidence F_b57_rung F_b57_connections F_b57_disconnections F_b57_maliciousAttempts F_b57_idleDisconnections rr3 hf3) (hw _ (List.mem_of_getElem? (i := 32) rfl)) (hw _ (List.mem_of_getElem? (i := 33) rfl)) (hw _ (List.mem_of_getElem? (i := 35) rfl)) (hw _ (List.mem_of_getElem? (i := 34) rfl)) (hw _ (List.mem_of_getElem? (i := 8) rfl)) (hw _ (List.mem_of_getElem? (i := 36) rfl)) (by decide) e0 E_b57 (W := 0) (pc := 98) (Ls := #[.val (.long x0), .second, .val (.int x2), .val (.long x3), .second, .val (.long x5), .second, .val (.long x7), .second, .val (.long x9), .second, .val (.long x11), .second, .val (.long x13), .second, .val (.long x15), .second, .val (.ref b57), .val (.int t0)]) rfl (lenOf pd5 rfl) (rest := []) (stk := [(.ref b57)]) rfl (Nat.le_of_ble_eq_true rfl) (hb hby at_98) (by decide) (by decide) (by decide) (by decide)
  replace N := Fr.app N N3
  replace E_b57 := E_b57.keep K3
  replace F_b57_confidence := F_b57_confidence.keep K3 nin0
  replace F_b57_rung := F_b57_rung.keep K3 nin0
  replace F_b57_connections := F_b57_connections.keep K3 nin0
  replace F_b57_disconnections := F_b57_disconnections.keep K3 nin0
  replace F_b57_maliciousAttempts := F_b57_maliciousAttempts.keep K3 nin0
  replace F_b57_idleDisconnections := F_b57_idleDisconnections.keep K3 nin0
  obtain ⟨rfl⟩ := Q3
  replace K := K.trans K3 all0
  refine own_go st3 ?_
  show own_WP p e below _ T3 (mkF m 101 #[.val (.long x0), .second, .val (.int x2), .val (.long x3), .second, .val (.long x5), .second, .val (.long x7), .second, .val (.long x9), .second, .val (.long x11), .second, .val (.long x13), .second, .val (.long x15), .second, .val (.ref b57), .val (.int t0)] [(.int rr3)])
  refine own_go (fun _ => XS.iload X3.here hx rfl (hb hby at_101) rfl) ?_
  show own_WP p e below _ T3 (mkF m 103 #[.val (.long x0), .second, .val (.int x2), .val (.long x3), .second, .val (.long x5), .second, .val (.long x7), .second, .val (.long x9), .second, .val (.long x11), .second, .val (.long x13), .second, .val (.long x15), .second, .val (.ref b57), .val (.int t0)] [(.int t0), (.int rr3)])
  by_cases h103 : rr3 = t0
  · replace hv := (if_pos h103).symm.trans hv
    refine own_go (fun _ => XS.icmpNo X3.here hx rfl (hb hby at_103) rfl (XT.ii_ne_f h103)) ?_
    show own_WP p e below _ T3 (mkF m 106 #[.val (.long x0), .second, .val (.int x2), .val (.long x3), .second, .val (.long x5), .second, .val (.long x7), .second, .val (.long x9), .second, .val (.long x11), .second, .val (.long x13), .second, .val (.long x15), .second, .val (.ref b57), .val (.int t0)] [])
    refine own_go (fun _ => XS.iconst X3.here hx rfl (hb hby at_106)) ?_
    show own_WP p e below _ T3 (mkF m 107 #[.val (.long x0), .second, .val (.int x2), .val (.long x3), .second, .val (.long x5), .second, .val (.long x7), .second, .val (.long x9), .second, .val (.long x11), .second, .val (.long x13), .second, .val (.long x15), .second, .val (.ref b57), .val (.int t0)] [(.int (1 : Int32))])
    refine own_go (fun _ => XS.goto X3.here hx rfl (pc0 := 107) (pc' := 111) rfl (hb hby at_107) (by decide) (by decide)) ?_
    show own_WP p e below _ T3 (mkF m 111 #[.val (.long x0), .second, .val (.int x2), .val (.long x3), .second, .val (.long x5), .second, .val (.long x7), .second, .val (.long x9), .second, .val (.long x11), .second, .val (.long x13), .second, .val (.long x15), .second, .val (.ref b57), .val (.int t0)] [(.int (1 : Int32))])
    obtain rfl := Option.some.inj hv
    exact own_retN X3 C (by simp) (hb hby at_111) (hP _ _ _ N K rfl) (by decide) (by decide)
  · replace hv := (if_neg h103).symm.trans hv
    refine own_go (fun _ => XS.icmpYes X3.here hx rfl (pc0 := 103) (pc' := 110) rfl (hb hby at_103) rfl (XT.ii_ne_t h103) (by decide) (by decide)) ?_
    show own_WP p e below _ T3 (mkF m 110 #[.val (.long x0), .second, .val (.int x2), .val (.long x3), .second, .val (.long x5), .second, .val (.long x7), .second, .val (.long x9), .second, .val (.long x11), .second, .val (.long x13), .second, .val (.long x15), .second, .val (.ref b57), .val (.int t0)] [])
    refine own_go (fun _ => XS.iconst X3.here hx rfl (hb hby at_110)) ?_
    show own_WP p e below _ T3 (mkF m 111 #[.val (.long x0), .second, .val (.int x2), .val (.long x3), .second, .val (.long x5), .second, .val (.long x7), .second, .val (.long x9), .second, .val (.long x11), .second, .val (.long x13), .second, .val (.long x15), .second, .val (.ref b57), .val (.int t0)] [(.int (0 : Int32))])
    obtain rfl := Option.some.inj hv
    exact own_retN X3 C (by simp) (hb hby at_111) (hP _ _ _ N K rfl) (by decide) (by decide)
def f0_0 (x0 : Int64) (x2 : Int32) (x3 : Int64) (x5 : Int64) (x7 : Int64) (x9 : Int64) : Option (Int32) := (if (x3 &&& (1 : Int64)) = (0 : Int64) then ((f2_0 x0 x2 (XT.ushrL x3 (2 : Int32)) (x5 &&& (1152921504606846975 : Int64)) x7 (x9 &&& (1152921504606846975 : Int64))).bind fun rr2 => (if (0 : Int64) < (((XT.ushrL x3 (2 : Int32)) - (x9 &&& (1152921504606846975 : Int64))) - (x5 &&& (1152921504606846975 : Int64))) then (f0_94 (rr2.2.2.1) (rr2.2.2.2.1) (rr2.2.2.2.2.2) (1 : Int32)) else (f0_94 (rr2.2.2.1) (rr2.2.2.2.1) (rr2.2.2.2.2.2) (0 : Int32)))) else (own_let (((XT.ushrL x3 (1 : Int32)) &&& (3 : Int64)) - (1 : Int64)) fun y4 => (own_let (f1_0 (((x5 &&& (1152921504606846975 : Int64)) + (x9 &&& (1152921504606846975 : Int64))) + y4) (0 : Int64)) fun y6 => ((f2_0 x0 x2 y6 (x5 &&& (1152921504606846975 : Int64)) x7 (x9 &&& (1152921504606846975 : Int64))).bind fun rr8 => (if (0 : Int64) < ((y6 - (x9 &&& (1152921504606846975 : Int64))) - (x5 &&& (1152921504606846975 : Int64))) then (f0_94 (rr8.2.2.1) (rr8.2.2.2.1) (rr8.2.2.2.2.2) (1 : Int32)) else (f0_94 (rr8.2.2.1) (rr8.2.2.2.1) (rr8.2.2.2.2.2) (0 : Int32)))))))
set_option maxRecDepth 65536 in
set_option maxHeartbeats 40000000 in
theorem b0_0 {p : Program} {l : Launch} {e : Env} {s : State} {m : MethodId} {args : Array Value} {below : List Frame} {meth : Method} {c : Code} {Z : State} {a0 : Array Value} {h0 : Heap} {n0 : Nat} {P : Option Value → Heap → List Loc → Prop} (hw : ∀ d ∈ tables_1, d.before a0 Z = true) (C : own_Ctx p s m meth c Z x code maxLocals ret) (Z0 : n0 ≤ h0.size)   (rr : Int32) (hP : ∀ v h L, Fr n0 L → Keep h0 h [] → E0 Z h0  rr v h → P v h L)
    {T : State} {locs : List Loc} {h : Heap} (X : Stand p l e room_1 s m args below meth c T locs 0 0) (e0 : T.heap = h) (N : Fr n0 locs) (K : Keep h0 h []) (x0 : Int64) (x2 : Int32) (x3 : Int64) (x5 : Int64) (x7 : Int64) (x9 : Int64) (hv : f0_0 x0 x2 x3 x5 x7 x9 = some rr) :
    own_WP p e below (own_Q s P room_1.cells room_1.slots) T (mkF m 0 #[.val (.long x0), .second, .val (.int x2), .val (.long x3), .second, .val (.long x5), .second, .val (.long x7), .second, .val (.long x9), .second, .unset, .unset, .unset, .unset, .unset, .unset, .unset, .unset] []) := by
  obtain ⟨hx, hZ, hby, hml, hown, hnm, hret, hlk⟩ := id C
  replace hown : s.vm.findClass "com/example/uriel/uriel/StandingConnectedPinLaw" = some m.cls := hown
  unfold f0_0 at hv
  show own_WP p e below _ T (mkF m 0 #[.val (.long x0), .second, .val (.int x2), .val (.long x3), .second, .val (.long x5), .second, .val (.long x7), .second, .val (.long x9), .second, .unset, .unset, .unset, .unset, .unset, .unset, .unset, .unset] [])
  refine own_go (fun _ => XS.lload X.here hx rfl (hb hby at_0) rfl) ?_
  show own_WP p e below _ T (mkF m 2 #[.val (.long x0), .second, .val (.int x2), .val (.long x3), .second, .val (.long x5), .second, .val (.long x7), .second, .val (.long x9), .second, .unset, .unset, .unset, .unset, .unset, .unset, .unset, .unset] [(.long x5)])
  refine own_go (X.ldc2Long hx hown (mvT hZ (hw _ (List.mem_of_getElem? (i := 0) rfl))) (g := (mkF m 2 #[.val (.long x0), .second, .val (.int x2), .val (.long x3), .second, .val (.long x5), .second, .val (.long x7), .second, .val (.long x9), .second, .unset, .unset, .unset, .unset, .unset, .unset, .unset, .unset] [(.long x5)])) rfl (hb hby at_2)) ?_
  show own_WP p e below _ T (mkF m 5 #[.val (.long x0), .second, .val (.int x2), .val (.long x3), .second, .val (.long x5), .second, .val (.long x7), .second, .val (.long x9), .second, .unset, .unset, .unset, .unset, .unset, .unset, .unset, .unset] [(.long (1152921504606846975 : Int64)), (.long x5)])
  refine own_go (fun _ => XS.land X.here hx rfl (hb hby at_5) rfl) ?_
  show own_WP p e below _ T (mkF m 6 #[.val (.long x0), .second, .val (.int x2), .val (.long x3), .second, .val (.long x5), .second, .val (.long x7), .second, .val (.long x9), .second, .unset, .unset, .unset, .unset, .unset, .unset, .unset, .unset] [(.long (x5 &&& (1152921504606846975 : Int64)))])
  refine own_go (fun _ => XS.lstore X.here hx rfl (hb hby at_6) rfl (l' := #[.val (.long x0), .second, .val (.int x2), .val (.long x3), .second, .val (.long x5), .second, .val (.long x7), .second, .val (.long x9), .second, .val (.long (x5 &&& (1152921504606846975 : Int64))), .second, .unset, .unset, .unset, .unset, .unset, .unset]) rfl) ?_
  show own_WP p e below _ T (mkF m 8 #[.val (.long x0), .second, .val (.int x2), .val (.long x3), .second, .val (.long x5), .second, .val (.long x7), .second, .val (.long x9), .second, .val (.long (x5 &&& (1152921504606846975 : Int64))), .second, .unset, .unset, .unset, .unset, .unset, .unset] [])
  refine own_go (fun _ => XS.lload X.here hx rfl (hb hby at_8) rfl) ?_
  show own_WP p e below _ T (mkF m 10 #[.val (.long x0), .second, .val (.int x2), .val (.long x3), .second, .val (.long x5), .second, .val (.long x7), .second, .val (.long x9), .second, .val (.long (x5 &&& (1152921504606846975 : Int64))), .second, .unset, .unset, .unset, .unset, .unset, .unset] [(.long x9)])
  refine own_go (X.ldc2Long hx hown (mvT hZ (hw _ (List.mem_of_getElem? (i := 0) rfl))) (g := (mkF m 10 #[.val (.long x0), .second, .val (.int x2), .val (.long x3), .second, .val (.long x5), .second, .val (.long x7), .second, .val (.long x9), .second, .val (.long (x5 &&& (1152921504606846975 : Int64))), .second, .unset, .unset, .unset, .unset, .unset, .unset] [(.long x9)])) rfl (hb hby at_10)) ?_
  show own_WP p e below _ T (mkF m 13 #[.val (.long x0), .second, .val (.int x2), .val (.long x3), .second, .val (.long x5), .second, .val (.long x7), .second, .val (.long x9), .second, .val (.long (x5 &&& (1152921504606846975 : Int64))), .second, .unset, .unset, .unset, .unset, .unset, .unset] [(.long (1152921504606846975 : Int64)), (.long x9)])
  refine own_go (fun _ => XS.land X.here hx rfl (hb hby at_13) rfl) ?_
  show own_WP p e below _ T (mkF m 14 #[.val (.long x0), .second, .val (.int x2), .val (.long x3), .second, .val (.long x5), .second, .val (.long x7), .second, .val (.long x9), .second, .val (.long (x5 &&& (1152921504606846975 : Int64))), .second, .unset, .unset, .unset, .unset, .unset, .unset] [(.long (x9 &&& (1152921504606846975 : Int64)))])
  refine own_go (fun _ => XS.lstore X.here hx rfl (hb hby at_14) rfl (l' := #[.val (.long x0), .second, .val (.int x2), .val (.long x3), .second, .val (.long x5), .second, .val (.long x7), .second, .val (.long x9), .second, .val (.long (x5 &&& (1152921504606846975 : Int64))), .second, .val (.long (x9 &&& (1152921504606846975 : Int64))), .second, .unset, .unset, .unset, .unset]) rfl) ?_
  show own_WP p e below _ T (mkF m 16 #[.val (.long x0), .second, .val (.int x2), .val (.long x3), .second, .val (.long x5), .second, .val (.long x7), .second, .val (.long x9), .second, .val (.long (x5 &&& (1152921504606846975 : Int64))), .second, .val (.long (x9 &&& (1152921504606846975 : Int64))), .second, .unset, .unset, .unset, .unset] [])
  refine own_go (fun _ => XS.lloadN X.here hx rfl (hb hby at_16) rfl) ?_
  show own_WP p e below _ T (mkF m 17 #[.val (.long x0), .second, .val (.int x2), .val (.long x3), .second, .val (.long x5), .second, .val (.long x7), .second, .val (.long x9), .second, .val (.long (x5 &&& (1152921504606846975 : Int64))), .second, .val (.long (x9 &&& (1152921504606846975 : Int64))), .second, .unset, .unset, .unset, .unset] [(.long x3)])
  refine own_go (fun _ => XS.lconst X.here hx rfl (hb hby at_17)) ?_
  show own_WP p e below _ T (mkF m 18 #[.val (.long x0), .second, .val (.int x2), .val (.long x3), .second, .val (.long x5), .second, .val (.long x7), .second, .val (.long x9), .second, .val (.long (x5 &&& (1152921504606846975 : Int64))), .second, .val (.long (x9 &&& (1152921504606846975 : Int64))), .second, .unset, .unset, .unset, .unset] [(.long (1 : Int64)), (.long x3)])
  refine own_go (fun _ => XS.land X.here hx rfl (hb hby at_18) rfl) ?_
  show own_WP p e below _ T (mkF m 19 #[.val (.long x0), .second, .val (.int x2), .val (.long x3), .second, .val (.long x5), .second, .val (.long x7), .second, .val (.long x9), .second, .val (.long (x5 &&& (1152921504606846975 : Int64))), .second, .val (.long (x9 &&& (1152921504606846975 : Int64))), .second, .unset, .unset, .unset, .unset] [(.long (x3 &&& (1 : Int64)))])
  refine own_go (fun _ => XS.lconst X.here hx rfl (hb hby at_19)) ?_
  show own_WP p e below _ T (mkF m 20 #[.val (.long x0), .second, .val (.int x2), .val (.long x3), .second, .val (.long x5), .second, .val (.long x7), .second, .val (.long x9), .second, .val (.long (x5 &&& (1152921504606846975 : Int64))), .second, .val (.long (x9 &&& (1152921504606846975 : Int64))), .second, .unset, .unset, .unset, .unset] [(.long (0 : Int64)), (.long (x3 &&& (1 : Int64)))])
  refine own_go (fun _ => XT.lcmp X.here hx rfl (hb hby at_20) rfl) ?_
  show own_WP p e below _ T (mkF m 21 #[.val (.long x0), .second, .val (.int x2), .val (.long x3), .second, .val (.long x5), .second, .val (.long x7), .second, .val (.long x9), .second, .val (.long (x5 &&& (1152921504606846975 : Int64))), .second, .val (.long (x9 &&& (1152921504606846975 : Int64))), .second, .unset, .unset, .unset, .unset] [(.int (XT.cmpL (x3 &&& (1 : Int64)) (0 : Int64)))])
  by_cases h21 : (x3 &&& (1 : Int64)) = (0 : Int64)
  · replace hv := (if_pos h21).symm.trans hv
    refine own_go (fun _ => XS.ifNo X.here hx rfl (hb hby at_21) rfl (XT.ll_ne_f h21)) ?_
    show own_WP p e below _ T (mkF m 24 #[.val (.long x0), .second, .val (.int x2), .val (.long x3), .second, .val (.long x5), .second, .val (.long x7), .second, .val (.long x9), .second, .val (.long (x5 &&& (1152921504606846975 : Int64))), .second, .val (.long (x9 &&& (1152921504606846975 : Int64))), .second, .unset, .unset, .unset, .unset] [])
    refine own_go (fun _ => XS.lloadN X.here hx rfl (hb hby at_24) rfl) ?_
    show own_WP p e below _ T (mkF m 25 #[.val (.long x0), .second, .val (.int x2), .val (.long x3), .second, .val (.long x5), .second, .val (.long x7), .second, .val (.long x9), .second, .val (.long (x5 &&& (1152921504606846975 : Int64))), .second, .val (.long (x9 &&& (1152921504606846975 : Int64))), .second, .unset, .unset, .unset, .unset] [(.long x3)])
    refine own_go (fun _ => XS.iconst X.here hx rfl (hb hby at_25)) ?_
    show own_WP p e below _ T (mkF m 26 #[.val (.long x0), .second, .val (.int x2), .val (.long x3), .second, .val (.long x5), .second, .val (.long x7), .second, .val (.long x9), .second, .val (.long (x5 &&& (1152921504606846975 : Int64))), .second, .val (.long (x9 &&& (1152921504606846975 : Int64))), .second, .unset, .unset, .unset, .unset] [(.int (2 : Int32)), (.long x3)])
    refine own_go (fun _ => XT.lushr X.here hx rfl (hb hby at_26) rfl) ?_
    show own_WP p e below _ T (mkF m 27 #[.val (.long x0), .second, .val (.int x2), .val (.long x3), .second, .val (.long x5), .second, .val (.long x7), .second, .val (.long x9), .second, .val (.long (x5 &&& (1152921504606846975 : Int64))), .second, .val (.long (x9 &&& (1152921504606846975 : Int64))), .second, .unset, .unset, .unset, .unset] [(.long (XT.ushrL x3 (2 : Int32)))])
    refine own_go (fun _ => XS.lstore X.here hx rfl (hb hby at_27) rfl (l' := #[.val (.long x0), .second, .val (.int x2), .val (.long x3), .second, .val (.long x5), .second, .val (.long x7), .second, .val (.long x9), .second, .val (.long (x5 &&& (1152921504606846975 : Int64))), .second, .val (.long (x9 &&& (1152921504606846975 : Int64))), .second, .val (.long (XT.ushrL x3 (2 : Int32))), .second, .unset, .unset]) rfl) ?_
    show own_WP p e below _ T (mkF m 29 #[.val (.long x0), .second, .val (.int x2), .val (.long x3), .second, .val (.long x5), .second, .val (.long x7), .second, .val (.long x9), .second, .val (.long (x5 &&& (1152921504606846975 : Int64))), .second, .val (.long (x9 &&& (1152921504606846975 : Int64))), .second, .val (.long (XT.ushrL x3 (2 : Int32))), .second, .unset, .unset] [])
    refine own_go (fun _ => XS.goto X.here hx rfl (pc0 := 29) (pc' := 57) rfl (hb hby at_29) (by decide) (by decide)) ?_
    show own_WP p e below _ T (mkF m 57 #[.val (.long x0), .second, .val (.int x2), .val (.long x3), .second, .val (.long x5), .second, .val (.long x7), .second, .val (.long x9), .second, .val (.long (x5 &&& (1152921504606846975 : Int64))), .second, .val (.long (x9 &&& (1152921504606846975 : Int64))), .second, .val (.long (XT.ushrL x3 (2 : Int32))), .second, .unset, .unset] [])
    obtain ⟨T1, h1, X1, e1, E1, A1, D1, -, st1⟩ := newO X hx hZ hown (hw _ (List.mem_of_getElem? (i := 6) rfl)) (hw _ (List.mem_of_getElem? (i := 7) rfl)) (hw _ (List.mem_of_getElem? (i := 8) rfl)) e0 (g := (mkF m 57 #[.val (.long x0), .second, .val (.int x2), .val (.long x3), .second, .val (.long x5), .second, .val (.long x7), .second, .val (.long x9), .second, .val (.long (x5 &&& (1152921504606846975 : Int64))), .second, .val (.long (x9 &&& (1152921504606846975 : Int64))), .second, .val (.long (XT.ushrL x3 (2 : Int32))), .second, .unset, .unset] [])) rfl (hb hby at_57) (by decide) (by decide)
    obtain ⟨b57, hb_b57⟩ : ∃ z, z = h.size := ⟨_, rfl⟩
    rw [← hb_b57] at A1 D1 st1
    refine own_go st1 ?_
    have g_b57 : n0 ≤ b57 := by have q := K.1; omega
    have z_b57 : h0.size ≤ b57 := by have q := K.1; omega
    replace K := K.ext E1
    have E_b57 := A1
    have F_b57_confidence : Fld Z h1 b57 "com/example/uriel/uriel/Standing" "confidence" "J" (.long (0 : Int64)) := D1 (Or.inr (hw _ (List.mem_of_getElem? (i := 21) rfl))) (ty := .long) (by decide)
    have F_b57_rung : Fld Z h1 b57 "com/example/uriel/uriel/Standing" "rung" "I" (.int (0 : Int32)) := D1 (Or.inr (hw _ (List.mem_of_getElem? (i := 23) rfl))) (ty := .int) (by decide)
    have F_b57_connections : Fld Z h1 b57 "com/example/uriel/uriel/Standing" "connections" "J" (.long (0 : Int64)) := D1 (Or.inr (hw _ (List.mem_of_getElem? (i := 25) rfl))) (ty := .long) (by decide)
    have F_b57_disconnections : Fld Z h1 b57 "com/example/uriel/uriel/Standing" "disconnections" "J" (.long (0 : Int64)) := D1 (Or.inr (hw _ (List.mem_of_getElem? (i := 27) rfl))) (ty := .long) (by decide)
    have F_b57_maliciousAttempts : Fld Z h1 b57 "com/example/uriel/uriel/Standing" "maliciousAttempts" "J" (.long (0 : Int64)) := D1 (Or.inr (hw _ (List.mem_of_getElem? (i := 29) rfl))) (ty := .long) (by decide)
    have F_b57_idleDisconnections : Fld Z h1 b57 "com/example/uriel/uriel/Standing" "idleDisconnections" "J" (.long (0 : Int64)) := D1 (Or.inr (hw _ (List.mem_of_getElem? (i := 31) rfl))) (ty := .long) (by decide)
    show own_WP p e below _ T1 (mkF m 60 #[.val (.long x0), .second, .val (.int x2), .val (.long x3), .second, .val (.long x5), .second, .val (.long x7), .second, .val (.long x9), .second, .val (.long (x5 &&& (1152921504606846975 : Int64))), .second, .val (.long (x9 &&& (1152921504606846975 : Int64))), .second, .val (.long (XT.ushrL x3 (2 : Int32))), .second, .unset, .unset] [(.ref b57)])
    refine own_go (fun _ => XS.dup X1.here hx rfl (hb hby at_60) rfl rfl) ?_
    show own_WP p e below _ T1 (mkF m 61 #[.val (.long x0), .second, .val (.int x2), .val (.long x3), .second, .val (.long x5), .second, .val (.long x7), .second, .val (.long x9), .second, .val (.long (x5 &&& (1152921504606846975 : Int64))), .second, .val (.long (x9 &&& (1152921504606846975 : Int64))), .second, .val (.long (XT.ushrL x3 (2 : Int32))), .second, .unset, .unset] [(.ref b57), (.ref b57)])
    refine own_go (fun _ => XS.lloadN X1.here hx rfl (hb hby at_61) rfl) ?_
    show own_WP p e below _ T1 (mkF m 62 #[.val (.long x0), .second, .val (.int x2), .val (.long x3), .second, .val (.long x5), .second, .val (.long x7), .second, .val (.long x9), .second, .val (.long (x5 &&& (1152921504606846975 : Int64))), .second, .val (.long (x9 &&& (1152921504606846975 : Int64))), .second, .val (.long (XT.ushrL x3 (2 : Int32))), .second, .unset, .unset] [(.long x0), (.ref b57), (.ref b57)])
    refine own_go (fun _ => XS.iloadN X1.here hx rfl (hb hby at_62) rfl) ?_
    show own_WP p e below _ T1 (mkF m 63 #[.val (.long x0), .second, .val (.int x2), .val (.long x3), .second, .val (.long x5), .second, .val (.long x7), .second, .val (.long x9), .second, .val (.long (x5 &&& (1152921504606846975 : Int64))), .second, .val (.long (x9 &&& (1152921504606846975 : Int64))), .second, .val (.long (XT.ushrL x3 (2 : Int32))), .second, .unset, .unset] [(.int x2), (.long x0), (.ref b57), (.ref b57)])
    refine own_go (fun _ => XS.lload X1.here hx rfl (hb hby at_63) rfl) ?_
    show own_WP p e below _ T1 (mkF m 65 #[.val (.long x0), .second, .val (.int x2), .val (.long x3), .second, .val (.long x5), .second, .val (.long x7), .second, .val (.long x9), .second, .val (.long (x5 &&& (1152921504606846975 : Int64))), .second, .val (.long (x9 &&& (1152921504606846975 : Int64))), .second, .val (.long (XT.ushrL x3 (2 : Int32))), .second, .unset, .unset] [(.long (XT.ushrL x3 (2 : Int32))), (.int x2), (.long x0), (.ref b57), (.ref b57)])
    refine own_go (fun _ => XS.lload X1.here hx rfl (hb hby at_65) rfl) ?_
    show own_WP p e below _ T1 (mkF m 67 #[.val (.long x0), .second, .val (.int x2), .val (.long x3), .second, .val (.long x5), .second, .val (.long x7), .second, .val (.long x9), .second, .val (.long (x5 &&& (1152921504606846975 : Int64))), .second, .val (.long (x9 &&& (1152921504606846975 : Int64))), .second, .val (.long (XT.ushrL x3 (2 : Int32))), .second, .unset, .unset] [(.long (x5 &&& (1152921504606846975 : Int64))), (.long (XT.ushrL x3 (2 : Int32))), (.int x2), (.long x0), (.ref b57), (.ref b57)])
    refine own_go (fun _ => XS.lload X1.here hx rfl (hb hby at_67) rfl) ?_
    show own_WP p e below _ T1 (mkF m 69 #[.val (.long x0), .second, .val (.int x2), .val (.long x3), .second, .val (.long x5), .second, .val (.long x7), .second, .val (.long x9), .second, .val (.long (x5 &&& (1152921504606846975 : Int64))), .second, .val (.long (x9 &&& (1152921504606846975 : Int64))), .second, .val (.long (XT.ushrL x3 (2 : Int32))), .second, .unset, .unset] [(.long x7), (.long (x5 &&& (1152921504606846975 : Int64))), (.long (XT.ushrL x3 (2 : Int32))), (.int x2), (.long x0), (.ref b57), (.ref b57)])
    refine own_go (fun _ => XS.lload X1.here hx rfl (hb hby at_69) rfl) ?_
    show own_WP p e below _ T1 (mkF m 71 #[.val (.long x0), .second, .val (.int x2), .val (.long x3), .second, .val (.long x5), .second, .val (.long x7), .second, .val (.long x9), .second, .val (.long (x5 &&& (1152921504606846975 : Int64))), .second, .val (.long (x9 &&& (1152921504606846975 : Int64))), .second, .val (.long (XT.ushrL x3 (2 : Int32))), .second, .unset, .unset] [(.long (x9 &&& (1152921504606846975 : Int64))), (.long x7), (.long (x5 &&& (1152921504606846975 : Int64))), (.long (XT.ushrL x3 (2 : Int32))), (.int x2), (.long x0), (.ref b57), (.ref b57)])
    obtain ⟨rr2, hf2, hv⟩ := own_bind hv
    obtain ⟨T2, v2, L2, X2, ⟨N2, K2, Q2⟩, st2⟩ := own_callN X1 C (a := b57) (argsL := [(.long x0), (.int x2), (.long (XT.ushrL x3 (2 : Int32))), (.long (x5 &&& (1152921504606846975 : Int64))), (.long x7), (.long (x9 &&& (1152921504606846975 : Int64)))]) (rm2 l Z a0 hw n0 h1 (by have q := K.1; omega) (by omega) E_b57 F_b57_confidence F_b57_rung F_b57_connections F_b57_disconnections F_b57_maliciousAttempts F_b57_idleDisconnections x0 x2 (XT.ushrL x3 (2 : Int32)) (x5 &&& (1152921504606846975 : Int64)) x7 (x9 &&& (1152921504606846975 : Int64)) rr2 hf2) rfl (hw _ (List.mem_of_getElem? (i := 9) rfl)) (hw _ (List.mem_of_getElem? (i := 10) rfl)) (hw _ (List.mem_of_getElem? (i := 8) rfl)) (hw _ (List.mem_of_getElem? (i := 11) rfl)) (by decide) e1 (W := 1) (pc := 71) (Ls := #[.val (.long x0), .second, .val (.int x2), .val (.long x3), .second, .val (.long x5), .second, .val (.long x7), .second, .val (.long x9), .second, .val (.long (x5 &&& (1152921504606846975 : Int64))), .second, .val (.long (x9 &&& (1152921504606846975 : Int64))), .second, .val (.long (XT.ushrL x3 (2 : Int32))), .second, .unset, .unset]) rfl (lenOf pd2 rfl) (rest := [(.ref b57)]) (stk := [(.long (x9 &&& (1152921504606846975 : Int64))), (.long x7), (.long (x5 &&& (1152921504606846975 : Int64))), (.long (XT.ushrL x3 (2 : Int32))), (.int x2), (.long x0), (.ref b57), (.ref b57)]) rfl (Nat.le_of_ble_eq_true rfl) (hb hby at_71) (by decide) (by decide) (by decide) (by decide)
    replace N := Fr.app N N2
    clear E_b57
    clear F_b57_confidence
    clear F_b57_rung
    clear F_b57_connections
    clear F_b57_disconnections
    clear F_b57_maliciousAttempts
    clear F_b57_idleDisconnections
    obtain ⟨rfl, E_b57, F_b57_confidence, F_b57_rung, F_b57_connections, F_b57_disconnections, F_b57_maliciousAttempts, F_b57_idleDisconnections⟩ := Q2
    replace K := K.trans K2 (allS (Or.inr (by omega)) all0)
    refine own_go st2 ?_
    show own_WP p e below _ T2 (mkF m 74 #[.val (.long x0), .second, .val (.int x2), .val (.long x3), .second, .val (.long x5), .second, .val (.long x7), .second, .val (.long x9), .second, .val (.long (x5 &&& (1152921504606846975 : Int64))), .second, .val (.long (x9 &&& (1152921504606846975 : Int64))), .second, .val (.long (XT.ushrL x3 (2 : Int32))), .second, .unset, .unset] [(.ref b57)])
    refine own_go (fun _ => XS.astore X2.here hx rfl (hb hby at_74) rfl rfl (l' := #[.val (.long x0), .second, .val (.int x2), .val (.long x3), .second, .val (.long x5), .second, .val (.long x7), .second, .val (.long x9), .second, .val (.long (x5 &&& (1152921504606846975 : Int64))), .second, .val (.long (x9 &&& (1152921504606846975 : Int64))), .second, .val (.long (XT.ushrL x3 (2 : Int32))), .second, .val (.ref b57), .unset]) rfl) ?_
    show own_WP p e below _ T2 (mkF m 76 #[.val (.long x0), .second, .val (.int x2), .val (.long x3), .second, .val (.long x5), .second, .val (.long x7), .second, .val (.long x9), .second, .val (.long (x5 &&& (1152921504606846975 : Int64))), .second, .val (.long (x9 &&& (1152921504606846975 : Int64))), .second, .val (.long (XT.ushrL x3 (2 : Int32))), .second, .val (.ref b57), .unset] [])
    refine own_go (fun _ => XS.lload X2.here hx rfl (hb hby at_76) rfl) ?_
    show own_WP p e below _ T2 (mkF m 78 #[.val (.long x0), .second, .val (.int x2), .val (.long x3), .second, .val (.long x5), .second, .val (.long x7), .second, .val (.long x9), .second, .val (.long (x5 &&& (1152921504606846975 : Int64))), .second, .val (.long (x9 &&& (1152921504606846975 : Int64))), .second, .val (.long (XT.ushrL x3 (2 : Int32))), .second, .val (.ref b57), .unset] [(.long (XT.ushrL x3 (2 : Int32)))])
    refine own_go (fun _ => XS.lload X2.here hx rfl (hb hby at_78) rfl) ?_
    show own_WP p e below _ T2 (mkF m 80 #[.val (.long x0), .second, .val (.int x2), .val (.long x3), .second, .val (.long x5), .second, .val (.long x7), .second, .val (.long x9), .second, .val (.long (x5 &&& (1152921504606846975 : Int64))), .second, .val (.long (x9 &&& (1152921504606846975 : Int64))), .second, .val (.long (XT.ushrL x3 (2 : Int32))), .second, .val (.ref b57), .unset] [(.long (x9 &&& (1152921504606846975 : Int64))), (.long (XT.ushrL x3 (2 : Int32)))])
    refine own_go (fun _ => XS.lsub X2.here hx rfl (hb hby at_80) rfl) ?_
    show own_WP p e below _ T2 (mkF m 81 #[.val (.long x0), .second, .val (.int x2), .val (.long x3), .second, .val (.long x5), .second, .val (.long x7), .second, .val (.long x9), .second, .val (.long (x5 &&& (1152921504606846975 : Int64))), .second, .val (.long (x9 &&& (1152921504606846975 : Int64))), .second, .val (.long (XT.ushrL x3 (2 : Int32))), .second, .val (.ref b57), .unset] [(.long ((XT.ushrL x3 (2 : Int32)) - (x9 &&& (1152921504606846975 : Int64))))])
    refine own_go (fun _ => XS.lload X2.here hx rfl (hb hby at_81) rfl) ?_
    show own_WP p e below _ T2 (mkF m 83 #[.val (.long x0), .second, .val (.int x2), .val (.long x3), .second, .val (.long x5), .second, .val (.long x7), .second, .val (.long x9), .second, .val (.long (x5 &&& (1152921504606846975 : Int64))), .second, .val (.long (x9 &&& (1152921504606846975 : Int64))), .second, .val (.long (XT.ushrL x3 (2 : Int32))), .second, .val (.ref b57), .unset] [(.long (x5 &&& (1152921504606846975 : Int64))), (.long ((XT.ushrL x3 (2 : Int32)) - (x9 &&& (1152921504606846975 : Int64))))])
    refine own_go (fun _ => XS.lsub X2.here hx rfl (hb hby at_83) rfl) ?_
    show own_WP p e below _ T2 (mkF m 84 #[.val (.long x0), .second, .val (.int x2), .val (.long x3), .second, .val (.long x5), .second, .val (.long x7), .second, .val (.long x9), .second, .val (.long (x5 &&& (1152921504606846975 : Int64))), .second, .val (.long (x9 &&& (1152921504606846975 : Int64))), .second, .val (.long (XT.ushrL x3 (2 : Int32))), .second, .val (.ref b57), .unset] [(.long (((XT.ushrL x3 (2 : Int32)) - (x9 &&& (1152921504606846975 : Int64))) - (x5 &&& (1152921504606846975 : Int64))))])
    refine own_go (fun _ => XS.lconst X2.here hx rfl (hb hby at_84)) ?_
    show own_WP p e below _ T2 (mkF m 85 #[.val (.long x0), .second, .val (.int x2), .val (.long x3), .second, .val (.long x5), .second, .val (.long x7), .second, .val (.long x9), .second, .val (.long (x5 &&& (1152921504606846975 : Int64))), .second, .val (.long (x9 &&& (1152921504606846975 : Int64))), .second, .val (.long (XT.ushrL x3 (2 : Int32))), .second, .val (.ref b57), .unset] [(.long (0 : Int64)), (.long (((XT.ushrL x3 (2 : Int32)) - (x9 &&& (1152921504606846975 : Int64))) - (x5 &&& (1152921504606846975 : Int64))))])
    refine own_go (fun _ => XT.lcmp X2.here hx rfl (hb hby at_85) rfl) ?_
    show own_WP p e below _ T2 (mkF m 86 #[.val (.long x0), .second, .val (.int x2), .val (.long x3), .second, .val (.long x5), .second, .val (.long x7), .second, .val (.long x9), .second, .val (.long (x5 &&& (1152921504606846975 : Int64))), .second, .val (.long (x9 &&& (1152921504606846975 : Int64))), .second, .val (.long (XT.ushrL x3 (2 : Int32))), .second, .val (.ref b57), .unset] [(.int (XT.cmpL (((XT.ushrL x3 (2 : Int32)) - (x9 &&& (1152921504606846975 : Int64))) - (x5 &&& (1152921504606846975 : Int64))) (0 : Int64)))])
    by_cases h86 : (0 : Int64) < (((XT.ushrL x3 (2 : Int32)) - (x9 &&& (1152921504606846975 : Int64))) - (x5 &&& (1152921504606846975 : Int64)))
    · replace hv := (if_pos h86).symm.trans hv
      refine own_go (fun _ => XS.ifNo X2.here hx rfl (hb hby at_86) rfl (XT.ll_le_f h86)) ?_
      show own_WP p e below _ T2 (mkF m 89 #[.val (.long x0), .second, .val (.int x2), .val (.long x3), .second, .val (.long x5), .second, .val (.long x7), .second, .val (.long x9), .second, .val (.long (x5 &&& (1152921504606846975 : Int64))), .second, .val (.long (x9 &&& (1152921504606846975 : Int64))), .second, .val (.long (XT.ushrL x3 (2 : Int32))), .second, .val (.ref b57), .unset] [])
      refine own_go (fun _ => XS.iconst X2.here hx rfl (hb hby at_89)) ?_
      show own_WP p e below _ T2 (mkF m 90 #[.val (.long x0), .second, .val (.int x2), .val (.long x3), .second, .val (.long x5), .second, .val (.long x7), .second, .val (.long x9), .second, .val (.long (x5 &&& (1152921504606846975 : Int64))), .second, .val (.long (x9 &&& (1152921504606846975 : Int64))), .second, .val (.long (XT.ushrL x3 (2 : Int32))), .second, .val (.ref b57), .unset] [(.int (1 : Int32))])
      refine own_go (fun _ => XS.goto X2.here hx rfl (pc0 := 90) (pc' := 94) rfl (hb hby at_90) (by decide) (by decide)) ?_
      exact b0_94 hw C Z0 rr hP X2 (rfl : T2.heap = T2.heap) N K g_b57 z_b57 E_b57 F_b57_confidence F_b57_rung F_b57_connections F_b57_disconnections F_b57_maliciousAttempts F_b57_idleDisconnections x0 x2 x3 x5 x7 x9 (x5 &&& (1152921504606846975 : Int64)) (x9 &&& (1152921504606846975 : Int64)) (XT.ushrL x3 (2 : Int32)) (.unset) One.u (1 : Int32) hv
    · replace hv := (if_neg h86).symm.trans hv
      refine own_go (fun _ => XS.ifYes X2.here hx rfl (pc0 := 86) (pc' := 93) rfl (hb hby at_86) rfl (XT.ll_le_t h86) (by decide) (by decide)) ?_
      show own_WP p e below _ T2 (mkF m 93 #[.val (.long x0), .second, .val (.int x2), .val (.long x3), .second, .val (.long x5), .second, .val (.long x7), .second, .val (.long x9), .second, .val (.long (x5 &&& (1152921504606846975 : Int64))), .second, .val (.long (x9 &&& (1152921504606846975 : Int64))), .second, .val (.long (XT.ushrL x3 (2 : Int32))), .second, .val (.ref b57), .unset] [])
      refine own_go (fun _ => XS.iconst X2.here hx rfl (hb hby at_93)) ?_
      exact b0_94 hw C Z0 rr hP X2 (rfl : T2.heap = T2.heap) N K g_b57 z_b57 E_b57 F_b57_confidence F_b57_rung F_b57_connections F_b57_disconnections F_b57_maliciousAttempts F_b57_idleDisconnections x0 x2 x3 x5 x7 x9 (x5 &&& (1152921504606846975 : Int64)) (x9 &&& (1152921504606846975 : Int64)) (XT.ushrL x3 (2 : Int32)) (.unset) One.u (0 : Int32) hv
  · replace hv := (if_neg h21).symm.trans hv
    refine own_go (fun _ => XS.ifYes X.here hx rfl (pc0 := 21) (pc' := 32) rfl (hb hby at_21) rfl (XT.ll_ne_t h21) (by decide) (by decide)) ?_
    show own_WP p e below _ T (mkF m 32 #[.val (.long x0), .second, .val (.int x2), .val (.long x3), .second, .val (.long x5), .second, .val (.long x7), .second, .val (.long x9), .second, .val (.long (x5 &&& (1152921504606846975 : Int64))), .second, .val (.long (x9 &&& (1152921504606846975 : Int64))), .second, .unset, .unset, .unset, .unset] [])
    refine own_go (fun _ => XS.lloadN X.here hx rfl (hb hby at_32) rfl) ?_
    show own_WP p e below _ T (mkF m 33 #[.val (.long x0), .second, .val (.int x2), .val (.long x3), .second, .val (.long x5), .second, .val (.long x7), .second, .val (.long x9), .second, .val (.long (x5 &&& (1152921504606846975 : Int64))), .second, .val (.long (x9 &&& (1152921504606846975 : Int64))), .second, .unset, .unset, .unset, .unset] [(.long x3)])
    refine own_go (fun _ => XS.iconst X.here hx rfl (hb hby at_33)) ?_
    show own_WP p e below _ T (mkF m 34 #[.val (.long x0), .second, .val (.int x2), .val (.long x3), .second, .val (.long x5), .second, .val (.long x7), .second, .val (.long x9), .second, .val (.long (x5 &&& (1152921504606846975 : Int64))), .second, .val (.long (x9 &&& (1152921504606846975 : Int64))), .second, .unset, .unset, .unset, .unset] [(.int (1 : Int32)), (.long x3)])
    refine own_go (fun _ => XT.lushr X.here hx rfl (hb hby at_34) rfl) ?_
    show own_WP p e below _ T (mkF m 35 #[.val (.long x0), .second, .val (.int x2), .val (.long x3), .second, .val (.long x5), .second, .val (.long x7), .second, .val (.long x9), .second, .val (.long (x5 &&& (1152921504606846975 : Int64))), .second, .val (.long (x9 &&& (1152921504606846975 : Int64))), .second, .unset, .unset, .unset, .unset] [(.long (XT.ushrL x3 (1 : Int32)))])
    refine own_go (X.ldc2Long hx hown (mvT hZ (hw _ (List.mem_of_getElem? (i := 1) rfl))) (g := (mkF m 35 #[.val (.long x0), .second, .val (.int x2), .val (.long x3), .second, .val (.long x5), .second, .val (.long x7), .second, .val (.long x9), .second, .val (.long (x5 &&& (1152921504606846975 : Int64))), .second, .val (.long (x9 &&& (1152921504606846975 : Int64))), .second, .unset, .unset, .unset, .unset] [(.long (XT.ushrL x3 (1 : Int32)))])) rfl (hb hby at_35)) ?_
    show own_WP p e below _ T (mkF m 38 #[.val (.long x0), .second, .val (.int x2), .val (.long x3), .second, .val (.long x5), .second, .val (.long x7), .second, .val (.long x9), .second, .val (.long (x5 &&& (1152921504606846975 : Int64))), .second, .val (.long (x9 &&& (1152921504606846975 : Int64))), .second, .unset, .unset, .unset, .unset] [(.long (3 : Int64)), (.long (XT.ushrL x3 (1 : Int32)))])
    refine own_go (fun _ => XS.land X.here hx rfl (hb hby at_38) rfl) ?_
    show own_WP p e below _ T (mkF m 39 #[.val (.long x0), .second, .val (.int x2), .val (.long x3), .second, .val (.long x5), .second, .val (.long x7), .second, .val (.long x9), .second, .val (.long (x5 &&& (1152921504606846975 : Int64))), .second, .val (.long (x9 &&& (1152921504606846975 : Int64))), .second, .unset, .unset, .unset, .unset] [(.long ((XT.ushrL x3 (1 : Int32)) &&& (3 : Int64)))])
    refine own_go (fun _ => XS.lconst X.here hx rfl (hb hby at_39)) ?_
    show own_WP p e below _ T (mkF m 40 #[.val (.long x0), .second, .val (.int x2), .val (.long x3), .second, .val (.long x5), .second, .val (.long x7), .second, .val (.long x9), .second, .val (.long (x5 &&& (1152921504606846975 : Int64))), .second, .val (.long (x9 &&& (1152921504606846975 : Int64))), .second, .unset, .unset, .unset, .unset] [(.long (1 : Int64)), (.long ((XT.ushrL x3 (1 : Int32)) &&& (3 : Int64)))])
    refine own_go (fun _ => XS.lsub X.here hx rfl (hb hby at_40) rfl) ?_
    show own_WP p e below _ T (mkF m 41 #[.val (.long x0), .second, .val (.int x2), .val (.long x3), .second, .val (.long x5), .second, .val (.long x7), .second, .val (.long x9), .second, .val (.long (x5 &&& (1152921504606846975 : Int64))), .second, .val (.long (x9 &&& (1152921504606846975 : Int64))), .second, .unset, .unset, .unset, .unset] [(.long (((XT.ushrL x3 (1 : Int32)) &&& (3 : Int64)) - (1 : Int64)))])
    generalize (((XT.ushrL x3 (1 : Int32)) &&& (3 : Int64)) - (1 : Int64)) = y4 at hv ⊢
    replace hv := own_letE hv
    show own_WP p e below _ T (mkF m 41 #[.val (.long x0), .second, .val (.int x2), .val (.long x3), .second, .val (.long x5), .second, .val (.long x7), .second, .val (.long x9), .second, .val (.long (x5 &&& (1152921504606846975 : Int64))), .second, .val (.long (x9 &&& (1152921504606846975 : Int64))), .second, .unset, .unset, .unset, .unset] [(.long y4)])
    refine own_go (fun _ => XS.lstore X.here hx rfl (hb hby at_41) rfl (l' := #[.val (.long x0), .second, .val (.int x2), .val (.long x3), .second, .val (.long x5), .second, .val (.long x7), .second, .val (.long x9), .second, .val (.long (x5 &&& (1152921504606846975 : Int64))), .second, .val (.long (x9 &&& (1152921504606846975 : Int64))), .second, .unset, .unset, .val (.long y4), .second]) rfl) ?_
    show own_WP p e below _ T (mkF m 43 #[.val (.long x0), .second, .val (.int x2), .val (.long x3), .second, .val (.long x5), .second, .val (.long x7), .second, .val (.long x9), .second, .val (.long (x5 &&& (1152921504606846975 : Int64))), .second, .val (.long (x9 &&& (1152921504606846975 : Int64))), .second, .unset, .unset, .val (.long y4), .second] [])
    refine own_go (fun _ => XS.lload X.here hx rfl (hb hby at_43) rfl) ?_
    show own_WP p e below _ T (mkF m 45 #[.val (.long x0), .second, .val (.int x2), .val (.long x3), .second, .val (.long x5), .second, .val (.long x7), .second, .val (.long x9), .second, .val (.long (x5 &&& (1152921504606846975 : Int64))), .second, .val (.long (x9 &&& (1152921504606846975 : Int64))), .second, .unset, .unset, .val (.long y4), .second] [(.long (x5 &&& (1152921504606846975 : Int64)))])
    refine own_go (fun _ => XS.lload X.here hx rfl (hb hby at_45) rfl) ?_
    show own_WP p e below _ T (mkF m 47 #[.val (.long x0), .second, .val (.int x2), .val (.long x3), .second, .val (.long x5), .second, .val (.long x7), .second, .val (.long x9), .second, .val (.long (x5 &&& (1152921504606846975 : Int64))), .second, .val (.long (x9 &&& (1152921504606846975 : Int64))), .second, .unset, .unset, .val (.long y4), .second] [(.long (x9 &&& (1152921504606846975 : Int64))), (.long (x5 &&& (1152921504606846975 : Int64)))])
    refine own_go (fun _ => XS.ladd X.here hx rfl (hb hby at_47) rfl) ?_
    show own_WP p e below _ T (mkF m 48 #[.val (.long x0), .second, .val (.int x2), .val (.long x3), .second, .val (.long x5), .second, .val (.long x7), .second, .val (.long x9), .second, .val (.long (x5 &&& (1152921504606846975 : Int64))), .second, .val (.long (x9 &&& (1152921504606846975 : Int64))), .second, .unset, .unset, .val (.long y4), .second] [(.long ((x5 &&& (1152921504606846975 : Int64)) + (x9 &&& (1152921504606846975 : Int64))))])
    refine own_go (fun _ => XS.lload X.here hx rfl (hb hby at_48) rfl) ?_
    show own_WP p e below _ T (mkF m 50 #[.val (.long x0), .second, .val (.int x2), .val (.long x3), .second, .val (.long x5), .second, .val (.long x7), .second, .val (.long x9), .second, .val (.long (x5 &&& (1152921504606846975 : Int64))), .second, .val (.long (x9 &&& (1152921504606846975 : Int64))), .second, .unset, .unset, .val (.long y4), .second] [(.long y4), (.long ((x5 &&& (1152921504606846975 : Int64)) + (x9 &&& (1152921504606846975 : Int64))))])
    refine own_go (fun _ => XS.ladd X.here hx rfl (hb hby at_50) rfl) ?_
    show own_WP p e below _ T (mkF m 51 #[.val (.long x0), .second, .val (.int x2), .val (.long x3), .second, .val (.long x5), .second, .val (.long x7), .second, .val (.long x9), .second, .val (.long (x5 &&& (1152921504606846975 : Int64))), .second, .val (.long (x9 &&& (1152921504606846975 : Int64))), .second, .unset, .unset, .val (.long y4), .second] [(.long (((x5 &&& (1152921504606846975 : Int64)) + (x9 &&& (1152921504606846975 : Int64))) + y4))])
    refine own_go (fun _ => XS.lconst X.here hx rfl (hb hby at_51)) ?_
    show own_WP p e below _ T (mkF m 52 #[.val (.long x0), .second, .val (.int x2), .val (.long x3), .second, .val (.long x5), .second, .val (.long x7), .second, .val (.long x9), .second, .val (.long (x5 &&& (1152921504606846975 : Int64))), .second, .val (.long (x9 &&& (1152921504606846975 : Int64))), .second, .unset, .unset, .val (.long y4), .second] [(.long (0 : Int64)), (.long (((x5 &&& (1152921504606846975 : Int64)) + (x9 &&& (1152921504606846975 : Int64))) + y4))])
    obtain ⟨T5, v5, L5, X5, ⟨rfl, rfl, e5⟩, st5⟩ := own_callS X C (rm1 l Z a0 hw (((x5 &&& (1152921504606846975 : Int64)) + (x9 &&& (1152921504606846975 : Int64))) + y4) (0 : Int64) h) (hw _ (List.mem_of_getElem? (i := 2) rfl)) (hw _ (List.mem_of_getElem? (i := 3) rfl)) (hw _ (List.mem_of_getElem? (i := 4) rfl)) (hw _ (List.mem_of_getElem? (i := 5) rfl)) (by decide) e0 (W := 0) (pc := 52) (Ls := #[.val (.long x0), .second, .val (.int x2), .val (.long x3), .second, .val (.long x5), .second, .val (.long x7), .second, .val (.long x9), .second, .val (.long (x5 &&& (1152921504606846975 : Int64))), .second, .val (.long (x9 &&& (1152921504606846975 : Int64))), .second, .unset, .unset, .val (.long y4), .second]) rfl (lenOf pd1 rfl) (rest := []) (stk := [(.long (0 : Int64)), (.long (((x5 &&& (1152921504606846975 : Int64)) + (x9 &&& (1152921504606846975 : Int64))) + y4))]) rfl (Nat.le_of_ble_eq_true rfl) (hb hby at_52) (by decide) (by decide) (by decide) (by decide)
    rw [List.append_nil] at X5
    refine own_go st5 ?_
    show own_WP p e below _ T5 (mkF m 55 #[.val (.long x0), .second, .val (.int x2), .val (.long x3), .second, .val (.long x5), .second, .val (.long x7), .second, .val (.long x9), .second, .val (.long (x5 &&& (1152921504606846975 : Int64))), .second, .val (.long (x9 &&& (1152921504606846975 : Int64))), .second, .unset, .unset, .val (.long y4), .second] [(.long (f1_0 (((x5 &&& (1152921504606846975 : Int64)) + (x9 &&& (1152921504606846975 : Int64))) + y4) (0 : Int64)))])
    generalize (f1_0 (((x5 &&& (1152921504606846975 : Int64)) + (x9 &&& (1152921504606846975 : Int64))) + y4) (0 : Int64)) = y6 at hv ⊢
    replace hv := own_letE hv
    show own_WP p e below _ T5 (mkF m 55 #[.val (.long x0), .second, .val (.int x2), .val (.long x3), .second, .val (.long x5), .second, .val (.long x7), .second, .val (.long x9), .second, .val (.long (x5 &&& (1152921504606846975 : Int64))), .second, .val (.long (x9 &&& (1152921504606846975 : Int64))), .second, .unset, .unset, .val (.long y4), .second] [(.long y6)])
    refine own_go (fun _ => XS.lstore X5.here hx rfl (hb hby at_55) rfl (l' := #[.val (.long x0), .second, .val (.int x2), .val (.long x3), .second, .val (.long x5), .second, .val (.long x7), .second, .val (.long x9), .second, .val (.long (x5 &&& (1152921504606846975 : Int64))), .second, .val (.long (x9 &&& (1152921504606846975 : Int64))), .second, .val (.long y6), .second, .val (.long y4), .second]) rfl) ?_
    show own_WP p e below _ T5 (mkF m 57 #[.val (.long x0), .second, .val (.int x2), .val (.long x3), .second, .val (.long x5), .second, .val (.long x7), .second, .val (.long x9), .second, .val (.long (x5 &&& (1152921504606846975 : Int64))), .second, .val (.long (x9 &&& (1152921504606846975 : Int64))), .second, .val (.long y6), .second, .val (.long y4), .second] [])
    obtain ⟨T7, h7, X7, e7, E7, A7, D7, -, st7⟩ := newO X5 hx hZ hown (hw _ (List.mem_of_getElem? (i := 6) rfl)) (hw _ (List.mem_of_getElem? (i := 7) rfl)) (hw _ (List.mem_of_getElem? (i := 8) rfl)) e5 (g := (mkF m 57 #[.val (.long x0), .second, .val (.int x2), .val (.long x3), .second, .val (.long x5), .second, .val (.long x7), .second, .val (.long x9), .second, .val (.long (x5 &&& (1152921504606846975 : Int64))), .second, .val (.long (x9 &&& (1152921504606846975 : Int64))), .second, .val (.long y6), .second, .val (.long y4), .second] [])) rfl (hb hby at_57) (by decide) (by decide)
    obtain ⟨b57, hb_b57⟩ : ∃ z, z = h.size := ⟨_, rfl⟩
    rw [← hb_b57] at A7 D7 st7
    refine own_go st7 ?_
    have g_b57 : n0 ≤ b57 := by have q := K.1; omega
    have z_b57 : h0.size ≤ b57 := by have q := K.1; omega
    replace K := K.ext E7
    have E_b57 := A7
    have F_b57_confidence : Fld Z h7 b57 "com/example/uriel/uriel/Standing" "confidence" "J" (.long (0 : Int64)) := D7 (Or.inr (hw _ (List.mem_of_getElem? (i := 21) rfl))) (ty := .long) (by decide)
    have F_b57_rung : Fld Z h7 b57 "com/example/uriel/uriel/Standing" "rung" "I" (.int (0 : Int32)) := D7 (Or.inr (hw _ (List.mem_of_getElem? (i := 23) rfl))) (ty := .int) (by decide)
    have F_b57_connections : Fld Z h7 b57 "com/example/uriel/uriel/Standing" "connections" "J" (.long (0 : Int64)) := D7 (Or.inr (hw _ (List.mem_of_getElem? (i := 25) rfl))) (ty := .long) (by decide)
    have F_b57_disconnections : Fld Z h7 b57 "com/example/uriel/uriel/Standing" "disconnections" "J" (.long (0 : Int64)) := D7 (Or.inr (hw _ (List.mem_of_getElem? (i := 27) rfl))) (ty := .long) (by decide)
    have F_b57_maliciousAttempts : Fld Z h7 b57 "com/example/uriel/uriel/Standing" "maliciousAttempts" "J" (.long (0 : Int64)) := D7 (Or.inr (hw _ (List.mem_of_getElem? (i := 29) rfl))) (ty := .long) (by decide)
    have F_b57_idleDisconnections : Fld Z h7 b57 "com/example/uriel/uriel/Standing" "idleDisconnections" "J" (.long (0 : Int64)) := D7 (Or.inr (hw _ (List.mem_of_getElem? (i := 31) rfl))) (ty := .long) (by decide)
    show own_WP p e below _ T7 (mkF m 60 #[.val (.long x0), .second, .val (.int x2), .val (.long x3), .second, .val (.long x5), .second, .val (.long x7), .second, .val (.long x9), .second, .val (.long (x5 &&& (1152921504606846975 : Int64))), .second, .val (.long (x9 &&& (1152921504606846975 : Int64))), .second, .val (.long y6), .second, .val (.long y4), .second] [(.ref b57)])
    refine own_go (fun _ => XS.dup X7.here hx rfl (hb hby at_60) rfl rfl) ?_
    show own_WP p e below _ T7 (mkF m 61 #[.val (.long x0), .second, .val (.int x2), .val (.long x3), .second, .val (.long x5), .second, .val (.long x7), .second, .val (.long x9), .second, .val (.long (x5 &&& (1152921504606846975 : Int64))), .second, .val (.long (x9 &&& (1152921504606846975 : Int64))), .second, .val (.long y6), .second, .val (.long y4), .second] [(.ref b57), (.ref b57)])
    refine own_go (fun _ => XS.lloadN X7.here hx rfl (hb hby at_61) rfl) ?_
    show own_WP p e below _ T7 (mkF m 62 #[.val (.long x0), .second, .val (.int x2), .val (.long x3), .second, .val (.long x5), .second, .val (.long x7), .second, .val (.long x9), .second, .val (.long (x5 &&& (1152921504606846975 : Int64))), .second, .val (.long (x9 &&& (1152921504606846975 : Int64))), .second, .val (.long y6), .second, .val (.long y4), .second] [(.long x0), (.ref b57), (.ref b57)])
    refine own_go (fun _ => XS.iloadN X7.here hx rfl (hb hby at_62) rfl) ?_
    show own_WP p e below _ T7 (mkF m 63 #[.val (.long x0), .second, .val (.int x2), .val (.long x3), .second, .val (.long x5), .second, .val (.long x7), .second, .val (.long x9), .second, .val (.long (x5 &&& (1152921504606846975 : Int64))), .second, .val (.long (x9 &&& (1152921504606846975 : Int64))), .second, .val (.long y6), .second, .val (.long y4), .second] [(.int x2), (.long x0), (.ref b57), (.ref b57)])
    refine own_go (fun _ => XS.lload X7.here hx rfl (hb hby at_63) rfl) ?_
    show own_WP p e below _ T7 (mkF m 65 #[.val (.long x0), .second, .val (.int x2), .val (.long x3), .second, .val (.long x5), .second, .val (.long x7), .second, .val (.long x9), .second, .val (.long (x5 &&& (1152921504606846975 : Int64))), .second, .val (.long (x9 &&& (1152921504606846975 : Int64))), .second, .val (.long y6), .second, .val (.long y4), .second] [(.long y6), (.int x2), (.long x0), (.ref b57), (.ref b57)])
    refine own_go (fun _ => XS.lload X7.here hx rfl (hb hby at_65) rfl) ?_
    show own_WP p e below _ T7 (mkF m 67 #[.val (.long x0), .second, .val (.int x2), .val (.long x3), .second, .val (.long x5), .second, .val (.long x7), .second, .val (.long x9), .second, .val (.long (x5 &&& (1152921504606846975 : Int64))), .second, .val (.long (x9 &&& (1152921504606846975 : Int64))), .second, .val (.long y6), .second, .val (.long y4), .second] [(.long (x5 &&& (1152921504606846975 : Int64))), (.long y6), (.int x2), (.long x0), (.ref b57), (.ref b57)])
    refine own_go (fun _ => XS.lload X7.here hx rfl (hb hby at_67) rfl) ?_
    show own_WP p e below _ T7 (mkF m 69 #[.val (.long x0), .second, .val (.int x2), .val (.long x3), .second, .val (.long x5), .second, .val (.long x7), .second, .val (.long x9), .second, .val (.long (x5 &&& (1152921504606846975 : Int64))), .second, .val (.long (x9 &&& (1152921504606846975 : Int64))), .second, .val (.long y6), .second, .val (.long y4), .second] [(.long x7), (.long (x5 &&& (1152921504606846975 : Int64))), (.long y6), (.int x2), (.long x0), (.ref b57), (.ref b57)])
    refine own_go (fun _ => XS.lload X7.here hx rfl (hb hby at_69) rfl) ?_
    show own_WP p e below _ T7 (mkF m 71 #[.val (.long x0), .second, .val (.int x2), .val (.long x3), .second, .val (.long x5), .second, .val (.long x7), .second, .val (.long x9), .second, .val (.long (x5 &&& (1152921504606846975 : Int64))), .second, .val (.long (x9 &&& (1152921504606846975 : Int64))), .second, .val (.long y6), .second, .val (.long y4), .second] [(.long (x9 &&& (1152921504606846975 : Int64))), (.long x7), (.long (x5 &&& (1152921504606846975 : Int64))), (.long y6), (.int x2), (.long x0), (.ref b57), (.ref b57)])
    obtain ⟨rr8, hf8, hv⟩ := own_bind hv
    obtain ⟨T8, v8, L8, X8, ⟨N8, K8, Q8⟩, st8⟩ := own_callN X7 C (a := b57) (argsL := [(.long x0), (.int x2), (.long y6), (.long (x5 &&& (1152921504606846975 : Int64))), (.long x7), (.long (x9 &&& (1152921504606846975 : Int64)))]) (rm2 l Z a0 hw n0 h7 (by have q := K.1; omega) (by omega) E_b57 F_b57_confidence F_b57_rung F_b57_connections F_b57_disconnections F_b57_maliciousAttempts F_b57_idleDisconnections x0 x2 y6 (x5 &&& (1152921504606846975 : Int64)) x7 (x9 &&& (1152921504606846975 : Int64)) rr8 hf8) rfl (hw _ (List.mem_of_getElem? (i := 9) rfl)) (hw _ (List.mem_of_getElem? (i := 10) rfl)) (hw _ (List.mem_of_getElem? (i := 8) rfl)) (hw _ (List.mem_of_getElem? (i := 11) rfl)) (by decide) e7 (W := 1) (pc := 71) (Ls := #[.val (.long x0), .second, .val (.int x2), .val (.long x3), .second, .val (.long x5), .second, .val (.long x7), .second, .val (.long x9), .second, .val (.long (x5 &&& (1152921504606846975 : Int64))), .second, .val (.long (x9 &&& (1152921504606846975 : Int64))), .second, .val (.long y6), .second, .val (.long y4), .second]) rfl (lenOf pd2 rfl) (rest := [(.ref b57)]) (stk := [(.long (x9 &&& (1152921504606846975 : Int64))), (.long x7), (.long (x5 &&& (1152921504606846975 : Int64))), (.long y6), (.int x2), (.long x0), (.ref b57), (.ref b57)]) rfl (Nat.le_of_ble_eq_true rfl) (hb hby at_71) (by decide) (by decide) (by decide) (by decide)
    replace N := Fr.app N N8
    clear E_b57
    clear F_b57_confidence
    clear F_b57_rung
    clear F_b57_connections
    clear F_b57_disconnections
    clear F_b57_maliciousAttempts
    clear F_b57_idleDisconnections
    obtain ⟨rfl, E_b57, F_b57_confidence, F_b57_rung, F_b57_connections, F_b57_disconnections, F_b57_maliciousAttempts, F_b57_idleDisconnections⟩ := Q8
    replace K := K.trans K8 (allS (Or.inr (by omega)) all0)
    refine own_go st8 ?_
    show own_WP p e below _ T8 (mkF m 74 #[.val (.long x0), .second, .val (.int x2), .val (.long x3), .second, .val (.long x5), .second, .val (.long x7), .second, .val (.long x9), .second, .val (.long (x5 &&& (1152921504606846975 : Int64))), .second, .val (.long (x9 &&& (1152921504606846975 : Int64))), .second, .val (.long y6), .second, .val (.long y4), .second] [(.ref b57)])
    refine own_go (fun _ => XS.astore X8.here hx rfl (hb hby at_74) rfl rfl (l' := #[.val (.long x0), .second, .val (.int x2), .val (.long x3), .second, .val (.long x5), .second, .val (.long x7), .second, .val (.long x9), .second, .val (.long (x5 &&& (1152921504606846975 : Int64))), .second, .val (.long (x9 &&& (1152921504606846975 : Int64))), .second, .val (.long y6), .second, .val (.ref b57), .unset]) rfl) ?_
    show own_WP p e below _ T8 (mkF m 76 #[.val (.long x0), .second, .val (.int x2), .val (.long x3), .second, .val (.long x5), .second, .val (.long x7), .second, .val (.long x9), .second, .val (.long (x5 &&& (1152921504606846975 : Int64))), .second, .val (.long (x9 &&& (1152921504606846975 : Int64))), .second, .val (.long y6), .second, .val (.ref b57), .unset] [])
    refine own_go (fun _ => XS.lload X8.here hx rfl (hb hby at_76) rfl) ?_
    show own_WP p e below _ T8 (mkF m 78 #[.val (.long x0), .second, .val (.int x2), .val (.long x3), .second, .val (.long x5), .second, .val (.long x7), .second, .val (.long x9), .second, .val (.long (x5 &&& (1152921504606846975 : Int64))), .second, .val (.long (x9 &&& (1152921504606846975 : Int64))), .second, .val (.long y6), .second, .val (.ref b57), .unset] [(.long y6)])
    refine own_go (fun _ => XS.lload X8.here hx rfl (hb hby at_78) rfl) ?_
    show own_WP p e below _ T8 (mkF m 80 #[.val (.long x0), .second, .val (.int x2), .val (.long x3), .second, .val (.long x5), .second, .val (.long x7), .second, .val (.long x9), .second, .val (.long (x5 &&& (1152921504606846975 : Int64))), .second, .val (.long (x9 &&& (1152921504606846975 : Int64))), .second, .val (.long y6), .second, .val (.ref b57), .unset] [(.long (x9 &&& (1152921504606846975 : Int64))), (.long y6)])
    refine own_go (fun _ => XS.lsub X8.here hx rfl (hb hby at_80) rfl) ?_
    show own_WP p e below _ T8 (mkF m 81 #[.val (.long x0), .second, .val (.int x2), .val (.long x3), .second, .val (.long x5), .second, .val (.long x7), .second, .val (.long x9), .second, .val (.long (x5 &&& (1152921504606846975 : Int64))), .second, .val (.long (x9 &&& (1152921504606846975 : Int64))), .second, .val (.long y6), .second, .val (.ref b57), .unset] [(.long (y6 - (x9 &&& (1152921504606846975 : Int64))))])
    refine own_go (fun _ => XS.lload X8.here hx rfl (hb hby at_81) rfl) ?_
    show own_WP p e below _ T8 (mkF m 83 #[.val (.long x0), .second, .val (.int x2), .val (.long x3), .second, .val (.long x5), .second, .val (.long x7), .second, .val (.long x9), .second, .val (.long (x5 &&& (1152921504606846975 : Int64))), .second, .val (.long (x9 &&& (1152921504606846975 : Int64))), .second, .val (.long y6), .second, .val (.ref b57), .unset] [(.long (x5 &&& (1152921504606846975 : Int64))), (.long (y6 - (x9 &&& (1152921504606846975 : Int64))))])
    refine own_go (fun _ => XS.lsub X8.here hx rfl (hb hby at_83) rfl) ?_
    show own_WP p e below _ T8 (mkF m 84 #[.val (.long x0), .second, .val (.int x2), .val (.long x3), .second, .val (.long x5), .second, .val (.long x7), .second, .val (.long x9), .second, .val (.long (x5 &&& (1152921504606846975 : Int64))), .second, .val (.long (x9 &&& (1152921504606846975 : Int64))), .second, .val (.long y6), .second, .val (.ref b57), .unset] [(.long ((y6 - (x9 &&& (1152921504606846975 : Int64))) - (x5 &&& (1152921504606846975 : Int64))))])
    refine own_go (fun _ => XS.lconst X8.here hx rfl (hb hby at_84)) ?_
    show own_WP p e below _ T8 (mkF m 85 #[.val (.long x0), .second, .val (.int x2), .val (.long x3), .second, .val (.long x5), .second, .val (.long x7), .second, .val (.long x9), .second, .val (.long (x5 &&& (1152921504606846975 : Int64))), .second, .val (.long (x9 &&& (1152921504606846975 : Int64))), .second, .val (.long y6), .second, .val (.ref b57), .unset] [(.long (0 : Int64)), (.long ((y6 - (x9 &&& (1152921504606846975 : Int64))) - (x5 &&& (1152921504606846975 : Int64))))])
    refine own_go (fun _ => XT.lcmp X8.here hx rfl (hb hby at_85) rfl) ?_
    show own_WP p e below _ T8 (mkF m 86 #[.val (.long x0), .second, .val (.int x2), .val (.long x3), .second, .val (.long x5), .second, .val (.long x7), .second, .val (.long x9), .second, .val (.long (x5 &&& (1152921504606846975 : Int64))), .second, .val (.long (x9 &&& (1152921504606846975 : Int64))), .second, .val (.long y6), .second, .val (.ref b57), .unset] [(.int (XT.cmpL ((y6 - (x9 &&& (1152921504606846975 : Int64))) - (x5 &&& (1152921504606846975 : Int64))) (0 : Int64)))])
    by_cases h86 : (0 : Int64) < ((y6 - (x9 &&& (1152921504606846975 : Int64))) - (x5 &&& (1152921504606846975 : Int64)))
    · replace hv := (if_pos h86).symm.trans hv
      refine own_go (fun _ => XS.ifNo X8.here hx rfl (hb hby at_86) rfl (XT.ll_le_f h86)) ?_
      show own_WP p e below _ T8 (mkF m 89 #[.val (.long x0), .second, .val (.int x2), .val (.long x3), .second, .val (.long x5), .second, .val (.long x7), .second, .val (.long x9), .second, .val (.long (x5 &&& (1152921504606846975 : Int64))), .second, .val (.long (x9 &&& (1152921504606846975 : Int64))), .second, .val (.long y6), .second, .val (.ref b57), .unset] [])
      refine own_go (fun _ => XS.iconst X8.here hx rfl (hb hby at_89)) ?_
      show own_WP p e below _ T8 (mkF m 90 #[.val (.long x0), .second, .val (.int x2), .val (.long x3), .second, .val (.long x5), .second, .val (.long x7), .second, .val (.long x9), .second, .val (.long (x5 &&& (1152921504606846975 : Int64))), .second, .val (.long (x9 &&& (1152921504606846975 : Int64))), .second, .val (.long y6), .second, .val (.ref b57), .unset] [(.int (1 : Int32))])
      refine own_go (fun _ => XS.goto X8.here hx rfl (pc0 := 90) (pc' := 94) rfl (hb hby at_90) (by decide) (by decide)) ?_
      exact b0_94 hw C Z0 rr hP X8 (rfl : T8.heap = T8.heap) N K g_b57 z_b57 E_b57 F_b57_confidence F_b57_rung F_b57_connections F_b57_disconnections F_b57_maliciousAttempts F_b57_idleDisconnections x0 x2 x3 x5 x7 x9 (x5 &&& (1152921504606846975 : Int64)) (x9 &&& (1152921504606846975 : Int64)) y6 (.unset) One.u (1 : Int32) hv
    · replace hv := (if_neg h86).symm.trans hv
      refine own_go (fun _ => XS.ifYes X8.here hx rfl (pc0 := 86) (pc' := 93) rfl (hb hby at_86) rfl (XT.ll_le_t h86) (by decide) (by decide)) ?_
      show own_WP p e below _ T8 (mkF m 93 #[.val (.long x0), .second, .val (.int x2), .val (.long x3), .second, .val (.long x5), .second, .val (.long x7), .second, .val (.long x9), .second, .val (.long (x5 &&& (1152921504606846975 : Int64))), .second, .val (.long (x9 &&& (1152921504606846975 : Int64))), .second, .val (.long y6), .second, .val (.ref b57), .unset] [])
      refine own_go (fun _ => XS.iconst X8.here hx rfl (hb hby at_93)) ?_
      exact b0_94 hw C Z0 rr hP X8 (rfl : T8.heap = T8.heap) N K g_b57 z_b57 E_b57 F_b57_confidence F_b57_rung F_b57_connections F_b57_disconnections F_b57_maliciousAttempts F_b57_idleDisconnections x0 x2 x3 x5 x7 x9 (x5 &&& (1152921504606846975 : Int64)) (x9 &&& (1152921504606846975 : Int64)) y6 (.unset) One.u (0 : Int32) hv
theorem ef0 (m : MethodId) (x0 : Int64) (x2 : Int32) (x3 : Int64) (x5 : Int64) (x7 : Int64) (x9 : Int64) : entryFrame m #[(.long x0), (.int x2), (.long x3), (.long x5), (.long x7), (.long x9)] maxLocals = (mkF m 0 #[.val (.long x0), .second, .val (.int x2), .val (.long x3), .second, .val (.long x5), .second, .val (.long x7), .second, .val (.long x9), .second, .unset, .unset, .unset, .unset, .unset, .unset, .unset, .unset] []) := by first | (simp [entryFrame, mkF, argsToLocals, Value.category, maxLocals]; done) | rfl
theorem pn0 : plainFor x = true := plainFor_of_name (by first | (simp [plainName, overriddenIn, x]; done) | decide +kernel)
theorem own_94 (con dis idle : Int64) (t : Int32) (h : t = if dis + idle < con then 1 else 0) : f0_94 con dis idle t = some 1 := by
  unfold f0_94 f5_0
  subst h
  by_cases k : dis + idle < con
  · rw [if_pos k, if_pos k]; rfl
  · rw [if_neg k, if_neg k]; rfl
theorem own_rng (x : Int64) : 0 ≤ (x &&& (1152921504606846975 : Int64)).toInt ∧ (x &&& (1152921504606846975 : Int64)).toInt < 1152921504606846976 := by
  have q := c_maskL x 1152921504606846975 60 (by decide) (by decide +kernel)
  omega
theorem own_iff (con dis idle : Int64) (h1 : 0 ≤ con.toInt) (h2 : con.toInt < 4611686018427387904) (h3 : 0 ≤ dis.toInt) (h4 : dis.toInt < 1152921504606846976) (h5 : 0 ≤ idle.toInt) (h6 : idle.toInt < 1152921504606846976) : dis + idle < con ↔ 0 < con - idle - dis := by
  have a := c_ladd dis idle
  have b := c_lsub con idle
  have c := c_lsub (con - idle) dis
  have r1 := rng64 (dis + idle)
  have r2 := rng64 (con - idle)
  have r3 := rng64 (con - idle - dis)
  have q0 : (0 : Int64).toInt = 0 := rfl
  rw [Int64.lt_iff_toInt_lt, Int64.lt_iff_toInt_lt, q0]
  omega
theorem own_case (x0 : Int64) (x2 : Int32) (con dis x7 idle : Int64) (h1 : 0 ≤ con.toInt) (h2 : con.toInt < 4611686018427387904) (h3 : 0 ≤ dis.toInt) (h4 : dis.toInt < 1152921504606846976) (h5 : 0 ≤ idle.toInt) (h6 : idle.toInt < 1152921504606846976) :
    ((f2_0 x0 x2 con dis x7 idle).bind fun rr2 => (if (0 : Int64) < (con - idle) - dis then (f0_94 (rr2.2.2.1) (rr2.2.2.2.1) (rr2.2.2.2.2.2) (1 : Int32)) else (f0_94 (rr2.2.2.1) (rr2.2.2.2.1) (rr2.2.2.2.2.2) (0 : Int32)))) = some 1 := by
  unfold f2_0 f3_0
  simp only [Option.bind_some]
  have k := own_iff con dis idle h1 h2 h3 h4 h5 h6
  by_cases h : (0 : Int64) < (con - idle) - dis
  · rw [if_pos h]
    exact own_94 _ _ _ _ (by rw [if_pos (k.mpr h)])
  · rw [if_neg h]
    exact own_94 _ _ _ _ (by rw [if_neg (fun q => h (k.mp q))])
theorem own_ushrL (m : Int64) (k : Int32) (n : Nat) (hk : ((k.toInt64.toUInt64 &&& Int64.toUInt64 63).toBitVec % 64).toNat = n) : (XT.ushrL m k).toBitVec = m.toBitVec >>> n := by
  show m.toUInt64.toBitVec >>> ((k.toInt64.toUInt64 &&& Int64.toUInt64 63).toBitVec % 64) = _
  rw [BitVec.ushiftRight_eq', hk]; rfl
theorem own_quarter (x : Int64) : 0 ≤ (XT.ushrL x (2 : Int32)).toInt ∧ (XT.ushrL x (2 : Int32)).toInt < 4611686018427387904 := by
  have i : (XT.ushrL x (2 : Int32)).toInt = (XT.ushrL x (2 : Int32)).toBitVec.toInt := rfl
  have b := x.toBitVec.isLt
  rw [i, own_ushrL x 2 2 (by decide +kernel), BitVec.toInt_eq_toNat_cond, BitVec.toNat_ushiftRight, Nat.shiftRight_eq_div_pow]
  split <;> omega
theorem own_max (a b : Int64) : (f1_0 a b).toInt = if a.toInt < b.toInt then b.toInt else a.toInt := by
  unfold f1_0
  by_cases h : a < b
  · rw [if_pos h, if_pos (Int64.lt_iff_toInt_lt.mp h)]
  · rw [if_neg h, if_neg (fun q => h (Int64.lt_iff_toInt_lt.mpr q))]
theorem plain0 (x0 : Int64) (x2 : Int32) (x3 x5 x7 x9 : Int64) : f0_0 x0 x2 x3 x5 x7 x9 = some 1 := by
  obtain ⟨h3, h4⟩ := own_rng x5
  obtain ⟨h5, h6⟩ := own_rng x9
  unfold f0_0
  split
  · obtain ⟨h1, h2⟩ := own_quarter x3
    exact own_case x0 x2 _ _ x7 _ h1 h2 h3 h4 h5 h6
  · unfold own_let
    dsimp only
    have d := c_maskL (XT.ushrL x3 (1 : Int32)) 3 2 (by decide) (by decide +kernel)
    generalize XT.ushrL x3 (1 : Int32) &&& (3 : Int64) = e at *
    have s1 := c_lsub e 1
    have q1 : (1 : Int64).toInt = 1 := rfl
    have q0 : (0 : Int64).toInt = 0 := rfl
    have r1 := rng64 (e - 1)
    generalize x5 &&& (1152921504606846975 : Int64) = dis at *
    generalize x9 &&& (1152921504606846975 : Int64) = idle at *
    have s2 := c_ladd dis idle
    have r2 := rng64 (dis + idle)
    have s3 := c_ladd (dis + idle) (e - 1)
    have r3 := rng64 (dis + idle + (e - 1))
    have mx := own_max (dis + idle + (e - 1)) 0
    rw [q0] at mx
    rw [q1] at s1
    refine own_case x0 x2 _ _ x7 _ ?_ ?_ h3 h4 h5 h6
    · rw [mx]; split <;> omega
    · rw [mx]; split <;> omega
theorem rm0 (l : Launch) (Z : State) (a0 : Array Value) (hw : ∀ d ∈ tables_1, d.before a0 Z = true) (ws : List Jvm.Cond) (x0 : Int64) (x2 : Int32) (x3 : Int64) (x5 : Int64) (x7 : Int64) (x9 : Int64) (h0 : Heap) : own_Met l Z x code maxLocals ret ws room_1 #[(.long x0), (.int x2), (.long x3), (.long x5), (.long x7), (.long x9)] h0 (fun v h L => v = some (.int 1) ∧ Fr h0.size L) := by
  refine own_body pn0 ?_
  intro p e s m below meth c s₁ C X e0
  exact own_cast (ef0 m x0 x2 x3 x5 x7 x9) (b0_0 hw C (Nat.le_refl h0.size) (1 : Int32) (fun v h L a b c => ⟨c, a⟩) X e0 (Fr.nil _) (Keep.refl h0 []) x0 x2 x3 x5 x7 x9 (plain0 x0 x2 x3 x5 x7 x9))
set_option maxRecDepth 65536 in
set_option maxHeartbeats 40000000 in
theorem comes_1 {Post : Tables → Env → Array Value → State → Outcome → State → Prop} (hpost : ∀ tb e args s v u, (limb_1_1.after args s (.returned v) u = true ∧ limb_1_2.after args s (.returned v) u = true ∧ True) → FrameEnd s (.returned v) u (Jvm.fieldLocs frame_1_writes args s ++ Jvm.arrayLocs frame_1_arrays args s ++ Jvm.staticLocs frame_1_statics s) 16 128 → Post tb e args s (.returned v) u) :
    ArmFor flags0 classFile x code maxLocals ret World_1 tables_1 room_1 Calls_1 rest_1 Pre_1 Post := by
  intro l hfl _ _ p e ha hc hk s m args below hf hA hF happ hP
  obtain ⟨hcalls, hrest, hpre⟩ := hP
  obtain ⟨-, -, -, hnamed, -, -, -, hat⟩ := (Spec.applies_iff hf).mp happ
  obtain ⟨hg, hn⟩ := and_e (Cond.before_iff.mp (show (Jvm.Cond.and given_1 narrow_1).before args s = true from hpre))
  obtain ⟨hcnt, hg0⟩ := and_e hg
  obtain ⟨ha0, hg1⟩ := and_e hg0
  obtain ⟨ha1, hg2⟩ := and_e hg1
  obtain ⟨ha2, hg3⟩ := and_e hg2
  obtain ⟨ha3, hg4⟩ := and_e hg3
  obtain ⟨ha4, hg5⟩ := and_e hg4
  have ha5 := hg5
  obtain ⟨w0, w1, w2, w3, w4, w5, rfl⟩ : ∃ w0 w1 w2 w3 w4 w5 : Value, args = #[w0, w1, w2, w3, w4, w5] := by
    have hs : args.size = 6 := by simpa [Cond.value, given_1] using hcnt
    obtain ⟨L⟩ := args
    match L, hs with
    | [w0, w1, w2, w3, w4, w5], _ => exact ⟨w0, w1, w2, w3, w4, w5, rfl⟩
  have hw := fun d (hd : d ∈ tables_1) => atoms_spec (ws := Jvm.Cond.code x code maxLocals ret :: tables_1) hat d (List.mem_cons_of_mem _ hd)
  obtain ⟨i0, ei0⟩ := isL_v ha0
  obtain rfl : w0 = (.long i0) := Option.some.inj ei0
  obtain ⟨i1, ei1⟩ := is_v ha1
  obtain rfl : w1 = (.int i1) := Option.some.inj ei1
  obtain ⟨i2, ei2⟩ := isL_v ha2
  obtain rfl : w2 = (.long i2) := Option.some.inj ei2
  obtain ⟨i3, ei3⟩ := isL_v ha3
  obtain rfl : w3 = (.long i3) := Option.some.inj ei3
  obtain ⟨i4, ei4⟩ := isL_v ha4
  obtain rfl : w4 = (.long i4) := Option.some.inj ei4
  obtain ⟨i5, ei5⟩ := isL_v ha5
  obtain rfl : w5 = (.long i5) := Option.some.inj ei5
  obtain ⟨n, o, h1, h2, h3, _, L, rfl, ⟨rfl, N⟩, hq⟩ := rm0 l s _ hw tables_1 i0 i1 i2 i3 i4 i5 s.heap p e ha hc hk s m _ below hf ((Spec.applies_iff_loose hf).mp happ).1 ⟨rfl, State.Warmed39.refl s, rfl⟩ trivial
  refine ⟨n, _, h1, h2, h3, hpost _ _ _ _ _ _ ⟨Cond.after_iff.mpr rfl, Cond.after_iff.mpr (eq_i res_at (Term.int_eval (1)) rfl), trivial⟩ ⟨hq.1, hq.2.1, (hq.2.2.sift fun y hy => Or.inr (N y hy)).mono (by decide) (by decide)⟩⟩
theorem main_1_1 : Claimed_1_1 := comes_1 fun _ _ _ _ _ _ h hF => ⟨h.1, hF⟩
theorem main_1_2 : Claimed_1_2 := comes_1 fun _ _ _ _ _ _ h hF => ⟨h.2.1, hF⟩
end Jvm.Pilot.@@N@@
namespace Jvm.Pilot.@@N@@
open Jvm Jvm.ClassFile Sem Op Lib Jvm.Free Jvm.Stand Jvm.Pilot.@@N@@.Jvm.D
/-! MADE BY PROGRAM (witnessworld.py) out of the Statement's table words and the real class files: 11 classes; the members and pool entries that the words name. The judged class is class 1, her method 1. -/
namespace start1
open Jvm.ClassFile
def u (s : String) : CpInfo := .utf8 (stringToUtf16 s)
/-- a pool by its gaps: so many unusable entries, then the entry; so many at the end -/
def gap : Nat → List CpInfo → List CpInfo
  | 0, r => r
  | n + 1, r => .unusable :: gap n r
def poolList (es : List (Nat × CpInfo)) (last : Nat) : List CpInfo := es.foldr (fun e r => gap e.1 (e.2 :: r)) (gap last [])
def pool (es : List (Nat × CpInfo)) (last : Nat) : Array CpInfo := ⟨poolList es last⟩
def fileOf (pool : Array CpInfo) (this : Nat) (attrs : Array Attribute := #[]) (ms : Array MethodInfo := #[]) (fl : Nat := 33) (sup : Nat := 0) (ifs : Array Nat := #[]) (fds : Array FieldInfo := #[]) : ClassFile where
  minorVersion := 0
  majorVersion := 65
  constantPool := pool
  accessFlags := fl
  thisClass := this
  superClass := sup
  interfaces := ifs
  fields := fds
  methods := ms
  attributes := attrs
def plain (name : String) (sup : Option ClassId) : Class where
  name := name
  kind := .ordinary
  loader := none
  accessFlags := 33
  super := sup
  interfaces := #[]
  cf := none
  fields := #[]
  methods := #[]
  instanceTypes := #[]
  staticTypes := #[]
  resolved := #[]
  callSites := []
  init := .initialized
  statics := none
  mirror := none

def pool0 : Array CpInfo := pool [(5, u "<init>"), (0, u "()V"), (1, .class_ 10), (1, u "java/lang/Object")] 113

def k0c0 : Code := { maxStack := 0, maxLocals := 1, code := object_method_1_code, exceptionTable := #[], attributes := #[] }
def k0m0 : Method := { name := "<init>", desc := "()V", sig := { parameters := [], returnType := none }, accessFlags := 1, code := some k0c0 }
/-- java/lang/Object -/
def k0 : Class := { plain "java/lang/Object" none with
  accessFlags := 33
  interfaces := #[]
  cf := some (fileOf pool0 8 #[] #[{ accessFlags := 1, nameIndex := 5, descriptorIndex := 6, attributes := #[] }] 33 0 #[] #[])
  fields := #[]
  methods := #[k0m0]
  instanceTypes := #[]
  staticTypes := #[]
  resolved := Array.replicate 124 none
  statics := none }

def pool1 : Array CpInfo := pool [(2, .class_ 4), (1, u "java/lang/Object"), (0, u "<init>"), (0, u "()V"), (0, .long 1152921504606846975), (1, .long 3), (1, .methodref 12 13), (0, .class_ 14), (0, .nameAndType 15 16), (0, u "java/lang/Math"), (0, u "max"), (0, u "(JJ)J"), (0, .class_ 18), (0, u "com/example/uriel/uriel/Standing"), (0, .methodref 17 20), (0, .nameAndType 5 21), (0, u "(JIJJJJ)V"), (0, .methodref 17 23), (0, .nameAndType 24 25), (0, u "connected"), (0, u "()Z"), (0, .class_ 27), (0, u "com/example/uriel/uriel/StandingConnectedPinLaw"), (2, u "law"), (0, u "(JIJJJJ)Z")] 3

def k1m0 : Method := { name := "<init>", desc := "()V", sig := { parameters := [], returnType := none }, accessFlags := 1, code := none }
def k1c1 : Code := { maxStack := 13, maxLocals := 19, code := code, exceptionTable := #[], attributes := #[] }
def k1m1 : Method := { name := "law", desc := "(JIJJJJ)Z", sig := { parameters := [.long, .int, .long, .long, .long, .long], returnType := some .boolean }, accessFlags := 9, code := some k1c1 }
/-- com/example/uriel/uriel/StandingConnectedPinLaw -/
def k1 : Class := { plain "com/example/uriel/uriel/StandingConnectedPinLaw" (some 0) with
  accessFlags := 49
  interfaces := #[]
  cf := some (fileOf pool1 26 #[] #[{ accessFlags := 1, nameIndex := 5, descriptorIndex := 6, attributes := #[] }, { accessFlags := 9, nameIndex := 30, descriptorIndex := 31, attributes := #[] }] 49 2 #[] #[])
  fields := #[]
  methods := #[k1m0, k1m1]
  instanceTypes := #[]
  staticTypes := #[]
  resolved := Array.replicate 35 none
  statics := none }

def pool2 : Array CpInfo := pool [(1, .class_ 2), (0, u "java/lang/Math"), (1, .class_ 6), (1, u "java/lang/Object"), (0, u "<init>"), (0, u "()V"), (89, .class_ 100), (1, u "java/lang/Math$RandomNumberGeneratorHolder"), (20, u "(JJ)J"), (50, u "negativeZeroFloatBits"), (0, u "J"), (2, u "negativeZeroDoubleBits"), (21, u "max"), (46, u "$assertionsDisabled"), (0, u "Z"), (91, u "twoToTheDoubleScaleDown"), (0, u "D"), (4, u "twoToTheDoubleScaleUp"), (9, u "E"), (3, u "PI"), (2, u "TAU"), (2, u "DEGREES_TO_RADIANS"), (0, u "RADIANS_TO_DEGREES")] 94

def k2m0 : Method := { name := "<init>", desc := "()V", sig := { parameters := [], returnType := none }, accessFlags := 2, code := none }
def k2c1 : Code := { maxStack := 4, maxLocals := 4, code := jdk_29_method_66_code, exceptionTable := #[], attributes := #[] }
def k2m1 : Method := { name := "max", desc := "(JJ)J", sig := { parameters := [.long, .long], returnType := some .long }, accessFlags := 9, code := some k2c1 }
/-- java/lang/Math -/
def k2 : Class := { plain "java/lang/Math" (some 0) with
  accessFlags := 49
  interfaces := #[]
  cf := some (fileOf pool2 1 #[.nestMembers #[98]] #[{ accessFlags := 2, nameIndex := 7, descriptorIndex := 8, attributes := #[] }, { accessFlags := 9, nameIndex := 198, descriptorIndex := 121, attributes := #[] }] 49 4 #[] #[{ accessFlags := 25, nameIndex := 354, descriptorIndex := 339, attributes := #[] }, { accessFlags := 25, nameIndex := 358, descriptorIndex := 339, attributes := #[] }, { accessFlags := 25, nameIndex := 361, descriptorIndex := 339, attributes := #[] }, { accessFlags := 26, nameIndex := 364, descriptorIndex := 339, attributes := #[] }, { accessFlags := 26, nameIndex := 365, descriptorIndex := 339, attributes := #[] }, { accessFlags := 26, nameIndex := 172, descriptorIndex := 173, attributes := #[] }, { accessFlags := 26, nameIndex := 176, descriptorIndex := 173, attributes := #[] }, { accessFlags := 8, nameIndex := 344, descriptorIndex := 339, attributes := #[] }, { accessFlags := 8, nameIndex := 338, descriptorIndex := 339, attributes := #[] }, { accessFlags := 4120, nameIndex := 245, descriptorIndex := 246, attributes := #[] }])
  fields := #[{ name := "E", type := .double, accessFlags := 25, slot := 0, constantValue := 0 }, { name := "PI", type := .double, accessFlags := 25, slot := 1, constantValue := 0 }, { name := "TAU", type := .double, accessFlags := 25, slot := 2, constantValue := 0 }, { name := "DEGREES_TO_RADIANS", type := .double, accessFlags := 26, slot := 3, constantValue := 0 }, { name := "RADIANS_TO_DEGREES", type := .double, accessFlags := 26, slot := 4, constantValue := 0 }, { name := "negativeZeroFloatBits", type := .long, accessFlags := 26, slot := 5, constantValue := 0 }, { name := "negativeZeroDoubleBits", type := .long, accessFlags := 26, slot := 6, constantValue := 0 }, { name := "twoToTheDoubleScaleUp", type := .double, accessFlags := 8, slot := 7, constantValue := 0 }, { name := "twoToTheDoubleScaleDown", type := .double, accessFlags := 8, slot := 8, constantValue := 0 }, { name := "$assertionsDisabled", type := .boolean, accessFlags := 4120, slot := 9, constantValue := 0 }]
  methods := #[k2m0, k2m1]
  instanceTypes := #[]
  staticTypes := #[.double, .double, .double, .double, .double, .long, .long, .double, .double, .boolean]
  resolved := Array.replicate 460 none
  statics := none }

def pool3 : Array CpInfo := pool [(1, .methodref 2 3), (0, .class_ 4), (0, .nameAndType 5 6), (0, u "java/lang/Object"), (0, u "<init>"), (0, u "()V"), (0, .class_ 8), (0, u "java/lang/Record")] 13

def k3c0 : Code := { maxStack := 1, maxLocals := 1, code := jdk_30_method_1_code, exceptionTable := #[], attributes := #[] }
def k3m0 : Method := { name := "<init>", desc := "()V", sig := { parameters := [], returnType := none }, accessFlags := 4, code := some k3c0 }
/-- java/lang/Record -/
def k3 : Class := { plain "java/lang/Record" (some 0) with
  accessFlags := 1057
  interfaces := #[]
  cf := some (fileOf pool3 7 #[] #[{ accessFlags := 4, nameIndex := 5, descriptorIndex := 6, attributes := #[] }] 1057 2 #[] #[])
  fields := #[]
  methods := #[k3m0]
  instanceTypes := #[]
  staticTypes := #[]
  resolved := Array.replicate 22 none
  statics := none }

def pool4 : Array CpInfo := pool [(1, .methodref 2 3), (0, .class_ 4), (0, .nameAndType 5 6), (0, u "java/lang/Record"), (0, u "<init>"), (0, u "()V"), (0, .fieldref 8 9), (0, .class_ 10), (0, .nameAndType 11 12), (0, u "com/example/uriel/uriel/Standing"), (0, u "confidence"), (0, u "J"), (0, .fieldref 8 14), (0, .nameAndType 15 16), (0, u "rung"), (0, u "I"), (0, .fieldref 8 18), (0, .nameAndType 19 12), (0, u "connections"), (0, .fieldref 8 21), (0, .nameAndType 22 12), (0, u "disconnections"), (0, .fieldref 8 24), (0, .nameAndType 25 12), (0, u "maliciousAttempts"), (0, .fieldref 8 27), (0, .nameAndType 28 12), (0, u "idleDisconnections"), (2, u "(JIJJJJ)V"), (18, u "connected"), (0, u "()Z"), (20, .class_ 74), (1, u "com/example/uriel/uriel/Standing$1")] 96

def k4c0 : Code := { maxStack := 3, maxLocals := 12, code := prog_16_method_1_code, exceptionTable := #[], attributes := #[] }
def k4m0 : Method := { name := "<init>", desc := "(JIJJJJ)V", sig := { parameters := [.long, .int, .long, .long, .long, .long], returnType := none }, accessFlags := 1, code := some k4c0 }
def k4c1 : Code := { maxStack := 6, maxLocals := 1, code := prog_16_method_4_code, exceptionTable := #[], attributes := #[] }
def k4m1 : Method := { name := "connected", desc := "()Z", sig := { parameters := [], returnType := some .boolean }, accessFlags := 1, code := some k4c1 }
/-- com/example/uriel/uriel/Standing -/
def k4 : Class := { plain "com/example/uriel/uriel/Standing" (some 3) with
  accessFlags := 49
  interfaces := #[]
  cf := some (fileOf pool4 8 #[.nestMembers #[72]] #[{ accessFlags := 1, nameIndex := 5, descriptorIndex := 31, attributes := #[] }, { accessFlags := 1, nameIndex := 50, descriptorIndex := 51, attributes := #[] }] 49 2 #[] #[{ accessFlags := 18, nameIndex := 11, descriptorIndex := 12, attributes := #[] }, { accessFlags := 18, nameIndex := 15, descriptorIndex := 16, attributes := #[] }, { accessFlags := 18, nameIndex := 19, descriptorIndex := 12, attributes := #[] }, { accessFlags := 18, nameIndex := 22, descriptorIndex := 12, attributes := #[] }, { accessFlags := 18, nameIndex := 25, descriptorIndex := 12, attributes := #[] }, { accessFlags := 18, nameIndex := 28, descriptorIndex := 12, attributes := #[] }])
  fields := #[{ name := "confidence", type := .long, accessFlags := 18, slot := 0, constantValue := 0 }, { name := "rung", type := .int, accessFlags := 18, slot := 1, constantValue := 0 }, { name := "connections", type := .long, accessFlags := 18, slot := 2, constantValue := 0 }, { name := "disconnections", type := .long, accessFlags := 18, slot := 3, constantValue := 0 }, { name := "maliciousAttempts", type := .long, accessFlags := 18, slot := 4, constantValue := 0 }, { name := "idleDisconnections", type := .long, accessFlags := 18, slot := 5, constantValue := 0 }]
  methods := #[k4m0, k4m1]
  instanceTypes := #[.long, .int, .long, .long, .long, .long]
  staticTypes := #[]
  resolved := Array.replicate 171 none
  statics := none }

def pool5 : Array CpInfo := pool [(1, u "java/lang/Cloneable"), (0, .class_ 1), (0, u "java/lang/Object"), (0, .class_ 3)] 3

/-- java/lang/Cloneable -/
def k5 : Class := { plain "java/lang/Cloneable" (some 0) with
  accessFlags := 1537
  interfaces := #[]
  cf := some (fileOf pool5 2 #[] #[] 1537 4 #[] #[])
  fields := #[]
  methods := #[]
  instanceTypes := #[]
  staticTypes := #[]
  resolved := Array.replicate 8 none
  statics := none }

def pool6 : Array CpInfo := pool [(1, u "java/io/Serializable"), (0, .class_ 1), (0, u "java/lang/Object"), (0, .class_ 3)] 3

/-- java/io/Serializable -/
def k6 : Class := { plain "java/io/Serializable" (some 0) with
  accessFlags := 1537
  interfaces := #[]
  cf := some (fileOf pool6 2 #[] #[] 1537 4 #[] #[])
  fields := #[]
  methods := #[]
  instanceTypes := #[]
  staticTypes := #[]
  resolved := Array.replicate 8 none
  statics := none }

/-- the primitive byte -/
def k7 : Class := { plain "byte" none with kind := .primitive 'B', accessFlags := 0x411 }
/-- [B -/
def k8 : Class := { plain "[B" (some 0) with kind := .array 7 .byte, interfaces := #[5, 6], accessFlags := 1041 }

/-- the primitive int -/
def k9 : Class := { plain "int" none with kind := .primitive 'I', accessFlags := 0x411 }
/-- [I -/
def k10 : Class := { plain "[I" (some 0) with kind := .array 9 .int, interfaces := #[5, 6], accessFlags := 1041 }

def heap : Heap := #[]
def classes : Array Class := #[k0, k1, k2, k3, k4, k5, k6, k7, k8, k9, k10]
def interned : List (Array UInt16 × Addr) := []
def slotsUsed : Nat := 0
def theMethod : MethodId := ⟨1, 1⟩
def args0 : Array Value := #[.long 5, .int 5, .long 5, .long 5, .long 5, .long 5]
def aboutOver (below : List Frame) : State where
  vm := { classes := classes, interned := interned.toArray }
  heap := heap
  slotsUsed := slotsUsed
  threads := #[{ frames := .invoking theMethod args0 :: below }]
def below0 : List Frame := [.native { method := ⟨0, 0⟩, args := #[] }]
def about1 : State := aboutOver below0
def p0 : Program := .bare "" "" ""
def e0 : Env := launch0.env 0 0 0
theorem w_frames : about1.frames = Frame.invoking theMethod args0 :: below0 := rfl
set_option maxRecDepth 65536 in
theorem w_args : argsFit about1.vm theMethod args0 = true := by decide +kernel
set_option maxRecDepth 65536 in
theorem w_heap : heapFits about1 = true := by decide +kernel
set_option maxRecDepth 65536 in
theorem w_runnable : about1.curStatus? = some .runnable := by decide +kernel
set_option maxRecDepth 65536 in
theorem w_alone : about1.alone = true := by decide +kernel
set_option maxRecDepth 65536 in
theorem w_named : about1.methodNamed? x = some theMethod := by decide +kernel
set_option maxRecDepth 65536 in
theorem w_hears : about1.hears theMethod below0 = true := by decide +kernel
set_option maxRecDepth 65536 in
theorem w_ripe : about1.ripe theMethod args0 below0 = true := by decide +kernel
theorem w_running : about1.status = .running := rfl
set_option maxRecDepth 65536 in
theorem w_room : about1.hasRoom e0.platform room_1 = true :=
  launch0.hasRoom_least _ room_1 (by decide +kernel) (by decide +kernel) (by decide +kernel) (by decide +kernel) (by decide +kernel) (by decide +kernel)
theorem allAtoms_all (ts : List Jvm.Cond) (a : Array Jvm.Value) (st : Jvm.State) : (allAtoms ts).before a st = ts.all (fun c => c.before a st) := by
  induction ts with
  | nil => rfl
  | cons c t ih =>
    show (Jvm.Cond.and c (allAtoms t)).before a st = _
    rw [Jvm.Cond.before_and, ih, List.all_cons]
def words1 : List Jvm.Cond := Jvm.Cond.code x code maxLocals ret :: tables_1
/-- a 'code' word, met by the world's own term for the bytes: nothing is compared byte by byte -/
theorem code_word {y : MethodName} {bytes : ByteArray} {mx : Nat} {rt : Option FieldType} {a : Array Value} {s : State} {m : MethodId} {meth : Method} {c : Code} (h1 : s.methodNamed? y = some m) (h2 : s.vm.method? m = some meth) (h3 : meth.code = some c) (h4 : c.code = bytes)
    (h5 : (c.maxLocals == mx && c.exceptionTable.isEmpty && decide (c.maxStack ≤ mostOperands) && decide (meth.sig.returnType = rt) && !meth.locks && decide (parseMethodDescriptor y.desc = some meth.sig)) = true) : (Jvm.Cond.code y bytes mx rt).before a s = true := by
  simp only [Bool.and_eq_true, beq_iff_eq, Bool.not_eq_true', decide_eq_true_eq] at h5
  obtain ⟨⟨⟨⟨⟨g1, g2⟩, g3⟩, g4⟩, g5⟩, g6⟩ := h5
  simp [Cond.before, Cond.holds, Cond.value, h1, h2, h3, h4, g1, g2, g3, g4, g5, g6]
def isCode : Jvm.Cond → Bool
  | .code _ _ _ _ => true
  | _ => false
theorem all_split {L : List Jvm.Cond} {P : Jvm.Cond → Bool} (h1 : L.all (fun c => isCode c || P c) = true) (h2 : ∀ c ∈ L.filter isCode, P c = true) : L.all P = true := by
  refine List.all_eq_true.mpr fun c hc => ?_
  have h := List.all_eq_true.mp h1 c hc
  rcases Bool.eq_false_or_eq_true (isCode c) with hi | hi
  · exact h2 c (List.mem_filter.mpr ⟨hc, hi⟩)
  · simpa [hi] using h
set_option maxRecDepth 65536 in
theorem w_c0 : (Jvm.Cond.code x code maxLocals ret).before args0 about1 = true := code_word (m := ⟨1, 1⟩) (meth := k1m1) (c := k1c1) (by decide +kernel) rfl rfl rfl (by decide +kernel)
set_option maxRecDepth 65536 in
theorem w_c1 : (Jvm.Cond.code ({ cls := "java/lang/Math", name := "max", desc := "(JJ)J" } : Jvm.MethodName) jdk_29_method_66_code (4 : Nat) (Option.some Jvm.ClassFile.FieldType.long)).before args0 about1 = true := code_word (m := ⟨2, 1⟩) (meth := k2m1) (c := k2c1) (by decide +kernel) rfl rfl rfl (by decide +kernel)
set_option maxRecDepth 65536 in
theorem w_c2 : (Jvm.Cond.code ({ cls := "com/example/uriel/uriel/Standing", name := "<init>", desc := "(JIJJJJ)V" } : Jvm.MethodName) prog_16_method_1_code (12 : Nat) (Option.none : Option Jvm.ClassFile.FieldType)).before args0 about1 = true := code_word (m := ⟨4, 0⟩) (meth := k4m0) (c := k4c0) (by decide +kernel) rfl rfl rfl (by decide +kernel)
set_option maxRecDepth 65536 in
theorem w_c3 : (Jvm.Cond.code ({ cls := "java/lang/Record", name := "<init>", desc := "()V" } : Jvm.MethodName) jdk_30_method_1_code (1 : Nat) (Option.none : Option Jvm.ClassFile.FieldType)).before args0 about1 = true := code_word (m := ⟨3, 0⟩) (meth := k3m0) (c := k3c0) (by decide +kernel) rfl rfl rfl (by decide +kernel)
set_option maxRecDepth 65536 in
theorem w_c4 : (Jvm.Cond.code ({ cls := "java/lang/Object", name := "<init>", desc := "()V" } : Jvm.MethodName) object_method_1_code (1 : Nat) (Option.none : Option Jvm.ClassFile.FieldType)).before args0 about1 = true := code_word (m := ⟨0, 0⟩) (meth := k0m0) (c := k0c0) (by decide +kernel) rfl rfl rfl (by decide +kernel)
set_option maxRecDepth 65536 in
theorem w_c5 : (Jvm.Cond.code ({ cls := "com/example/uriel/uriel/Standing", name := "connected", desc := "()Z" } : Jvm.MethodName) prog_16_method_4_code (1 : Nat) (Option.some Jvm.ClassFile.FieldType.boolean)).before args0 about1 = true := code_word (m := ⟨4, 1⟩) (meth := k4m1) (c := k4c1) (by decide +kernel) rfl rfl rfl (by decide +kernel)
def codes1 : List Jvm.Cond := [Jvm.Cond.code x code maxLocals ret, Jvm.Cond.code ({ cls := "java/lang/Math", name := "max", desc := "(JJ)J" } : Jvm.MethodName) jdk_29_method_66_code (4 : Nat) (Option.some Jvm.ClassFile.FieldType.long), Jvm.Cond.code ({ cls := "com/example/uriel/uriel/Standing", name := "<init>", desc := "(JIJJJJ)V" } : Jvm.MethodName) prog_16_method_1_code (12 : Nat) (Option.none : Option Jvm.ClassFile.FieldType), Jvm.Cond.code ({ cls := "java/lang/Record", name := "<init>", desc := "()V" } : Jvm.MethodName) jdk_30_method_1_code (1 : Nat) (Option.none : Option Jvm.ClassFile.FieldType), Jvm.Cond.code ({ cls := "java/lang/Object", name := "<init>", desc := "()V" } : Jvm.MethodName) object_method_1_code (1 : Nat) (Option.none : Option Jvm.ClassFile.FieldType), Jvm.Cond.code ({ cls := "com/example/uriel/uriel/Standing", name := "connected", desc := "()Z" } : Jvm.MethodName) prog_16_method_4_code (1 : Nat) (Option.some Jvm.ClassFile.FieldType.boolean)]
set_option maxRecDepth 65536 in
theorem codes_eq : words1.filter isCode = codes1 := rfl
theorem w_codes : ∀ c ∈ words1.filter isCode, c.before args0 about1 = true := by
  rw [codes_eq]
  intro c hc
  simp only [codes1, List.mem_cons, List.not_mem_nil, or_false] at hc
  rcases hc with rfl | rfl | rfl | rfl | rfl | rfl
  · exact w_c0
  · exact w_c1
  · exact w_c2
  · exact w_c3
  · exact w_c4
  · exact w_c5
set_option maxRecDepth 65536 in
theorem w_t1 : (words1.take 24).all (fun c => isCode c || c.before args0 about1) = true := by decide +kernel
set_option maxRecDepth 65536 in
theorem w_t2 : (words1.drop 24).all (fun c => isCode c || c.before args0 about1) = true := by decide +kernel
theorem w_tables : (allAtoms (Jvm.Cond.code x code maxLocals ret :: tables_1)).before args0 about1 = true := by
  rw [allAtoms_all]
  show words1.all (fun c => c.before args0 about1) = true
  refine all_split ?_ w_codes
  rw [← List.take_append_drop 24 words1, List.all_append, w_t1, w_t2]
  rfl
set_option maxRecDepth 65536 in
theorem w_case : (Jvm.Cond.and given_1 narrow_1).before args0 about1 = true := by decide +kernel
theorem w_applies : (headSpec (Jvm.Cond.code x code maxLocals ret :: tables_1) room_1).applies x e0.platform about1 = true :=
  (Spec.applies_iff w_frames).mpr ⟨w_running, w_runnable, w_alone, w_named, w_hears, w_ripe, w_room, w_tables⟩
theorem atStart : AtStart classFile x code maxLocals ret World_1 tables_1 room_1 Calls_1 rest_1 Pre_1 launch0 p0 e0 about1 theMethod args0 below0 :=
  ⟨lists_1, trivial, launch0.admits_env _ _ _, launch0.least_env, fairChoices_fair.cas, fairChoices_fair.clock, w_frames, w_args, w_heap, w_applies, trivial, trivial, w_case⟩
end start1
theorem witness_1 : WitnessClaimed_1 := ⟨start1.p0, start1.e0, start1.about1, start1.theMethod, start1.args0, start1.below0, start1.atStart⟩
end Jvm.Pilot.@@N@@
