import JvmDerived
import JvmDerived.Pilot.@@N@@Statement
import JvmDerived.Pilot.@@N@@Code
set_option linter.unusedVariables false
set_option linter.unusedSimpArgs false
namespace Jvm.RoadKit
open Sem ClassFile Op Lib Jvm.Stand Jvm.Free Jvm.LawKit
section New
variable {p : Program} {l : Launch} {e : Env} {R : Room} {s : State} {m : MethodId} {args : Array Value} {below : List Frame} {meth : Method} {c : Code} {T : State} {locs : List Loc} {cells slots : Nat}
theorem retI (X : Stand p l e R s m args below meth c T locs cells slots) (hx : p.tables.exec = Jvm.exec) {pc : Nat} {Ls : Array Slot} {z : Int32} {rest : List Value} (hret : meth.sig.returnType = some .int) (hd : decode c.code pc = .ok (.ireturn, 1)) {fs : List Frame}
    (hl : ∀ (f : JFrame) (acts : List Action), f.method = m → f.locked = none → f.entered = [] → (doReturn e (T.setTop f) acts (some (.int z))).1 = T.setFrames fs) : Steps p.tables e below (T.setTop (mkF m pc Ls (.int z :: rest))) (T.setFrames fs) := by
  have hm' : T.vm.method? m = some meth := X.method'
  have hn : narrow .int (.int z) = .int z := rfl
  show Steps p.tables e below (T.setTop { method := m, pc := pc, locals := Ls, stack := _ :: rest, locked := none }) _
  jvm_step X.here [X.here.top, hx, hd, hm', hret, hn]
  first | (intro acts; rw [hl _ acts rfl rfl rfl]) | rw [hl _ _ rfl rfl rfl]
  exact Steps.refl _
end New
end Jvm.RoadKit
namespace Jvm.Pilot.@@N@@
open Jvm Jvm.ClassFile Sem Op Lib Jvm.Free Jvm.Stand Jvm.LawKit Jvm.RoadKit Bundle Jvm.Pilot.@@N@@.Jvm.D
/-- what is still to come: from the frame g at T the run comes to an end that Q takes -/
def own_WP (p : Program) (e : Env) (below : List Frame) (Q : Outcome → State → Prop) (T : State) (g : JFrame) : Prop :=
  ∃ s₂ o, Steps p.tables e below (T.setTop g) s₂ ∧ s₂.status = .running ∧ Ended s₂ below o ∧ Q o s₂
def own_Q (s : State) (P : Option Value → Heap → List Loc → Prop) (C S : Nat) (o : Outcome) (U : State) : Prop :=
  ∃ v L, o = .returned v ∧ P v U.heap L ∧ FrameEnd s o U L C S
def own_Ctx (p : Program) (s : State) (m : MethodId) (meth : Method) (c : Code) (Z : State) (y : MethodName) (bytes : ByteArray) (maxL : Nat) (rt : Option FieldType) : Prop :=
  p.tables.exec = Jvm.exec ∧ Z.Warmed39 s.vm ∧ c.code = bytes ∧ c.maxLocals = maxL ∧ s.vm.findClass y.cls = some m.cls ∧ meth.name = y.name ∧ meth.sig.returnType = rt ∧ meth.locks = false
def own_Met (l : Launch) (Z : State) (y : MethodName) (bytes : ByteArray) (maxL : Nat) (rt : Option FieldType) (ws : List Jvm.Cond) (rm : Room) (as' : Array Value) (h : Heap) (P : Option Value → Heap → List Loc → Prop) : Prop :=
  MetFree l y (head1 (Jvm.Cond.code y bytes maxL rt :: ws) rm) (fun a U => a = as' ∧ Z.Warmed39 U.vm ∧ U.heap = h) (fun _ _ _ _ _ => True) (fun _ U o U' => ∃ v L, o = .returned v ∧ P v U'.heap L ∧ FrameEnd U o U' L rm.cells rm.slots)
section Own
variable {p : Program} {l : Launch} {e : Env} {R : Room} {s : State} {m : MethodId} {args : Array Value} {below : List Frame} {meth : Method} {c : Code} {T T' : State} {locs : List Loc} {cells slots : Nat} {Z : State} {a0 : Array Value} {y : MethodName} {bytes : ByteArray} {maxL : Nat} {rt : Option FieldType} {P : Option Value → Heap → List Loc → Prop} {Q : Outcome → State → Prop}
theorem own_go {g g' : JFrame} (st : ∀ t, Steps p.tables e below (T'.setTop g') t → Steps p.tables e below (T.setTop g) t) (h : own_WP p e below Q T' g') : own_WP p e below Q T g := by
  obtain ⟨s₂, o, h1, h2⟩ := h
  exact ⟨s₂, o, st _ h1, h2⟩
theorem own_body {ws : List Jvm.Cond} {rm : Room} {as' : Array Value} {h : Heap} (hp : plainFor y = true)
    (body : ∀ p e s m below meth c s₁, own_Ctx p s m meth c Z y bytes maxL rt → Stand p l e rm s m as' below meth c s₁ [] 0 0 → s₁.heap = h → own_WP p e below (own_Q s P rm.cells rm.slots) s₁ (entryFrame m as' maxL)) :
    own_Met l Z y bytes maxL rt ws rm as' h P := by
  refine MetFree.of_bodySF hp hisR ?_
  intro p e s m args below meth c s₁ Bd hml0 hP hK
  obtain ⟨rfl, hZ, hh⟩ := hP
  exact body p e s m below meth c s₁ ⟨Bd.exec, hZ, Bd.bytes, hml0, findClass_of_methodNamed Bd.named, (name_of_methodNamed Bd.named Bd.method).1, Bd.returns, Bd.notSynchronized⟩ (Stand.of_body Bd) (by rw [← hh, Bd.state]; rfl)
theorem own_cast {g g' : JFrame} (q : g = g') (k : own_WP p e below Q T g') : own_WP p e below Q T g := q ▸ k
theorem own_retI (X : Stand p l e R s m args below meth c T locs cells slots) (C : own_Ctx p s m meth c Z y bytes maxL (some .int)) {pc : Nat} {Ls : Array Slot} {z : Int32} {rest : List Value} {CC SS : Nat}
    (hd : decode c.code pc = .ok (.ireturn, 1)) (hP : P (some (.int z)) T.heap locs) (hc : cells ≤ CC) (hs : slots ≤ SS) : own_WP p e below (own_Q s P CC SS) T (mkF m pc Ls (.int z :: rest)) := by
  obtain ⟨hx, -, -, -, -, -, hr, hlk⟩ := C
  obtain ⟨fs, hrr, hrun, hended, hW, hsame⟩ := X.leave (v := some (.int z)) (fun h => by rw [hr] at h; cases h) hlk
  exact ⟨_, _, retI X hx hr hd hrr, hrun, hended, _, _, rfl, hP, ⟨_, rfl⟩, hW, hsame.mono hc hs⟩
theorem own_retN {t : FieldType} (X : Stand p l e R s m args below meth c T locs cells slots) (C : own_Ctx p s m meth c Z y bytes maxL (some t)) (ht : t = .boolean ∨ t = .byte ∨ t = .char ∨ t = .short) {pc : Nat} {Ls : Array Slot} {z : Int32} {rest : List Value} {CC SS : Nat}
    (hd : decode c.code pc = .ok (.ireturn, 1)) (hP : P (some (.int (nar t z))) T.heap locs) (hc : cells ≤ CC) (hs : slots ≤ SS) : own_WP p e below (own_Q s P CC SS) T (mkF m pc Ls (.int z :: rest)) := by
  obtain ⟨hx, -, -, -, -, -, hr, hlk⟩ := C
  obtain ⟨fs, hrr, hrun, hended, hW, hsame⟩ := X.leave (v := some (.int (nar t z))) (fun h => by rw [hr] at h; cases h) hlk
  exact ⟨_, _, retN X hx hr ht hd hrr, hrun, hended, _, _, rfl, hP, ⟨_, rfl⟩, hW, hsame.mono hc hs⟩
theorem own_retL (X : Stand p l e R s m args below meth c T locs cells slots) (C : own_Ctx p s m meth c Z y bytes maxL (some .long)) {pc : Nat} {Ls : Array Slot} {z : Int64} {CC SS : Nat}
    (hd : decode c.code pc = .ok (.lreturn, 1)) (hP : P (some (.long z)) T.heap locs) (hc : cells ≤ CC) (hs : slots ≤ SS) : own_WP p e below (own_Q s P CC SS) T (mkF m pc Ls [.long z]) := by
  obtain ⟨hx, -, -, -, -, -, hr, hlk⟩ := C
  obtain ⟨fs, hrr, hrun, hended, hW, hsame⟩ := X.leave (v := some (.long z)) (fun h => by rw [hr] at h; cases h) hlk
  exact ⟨_, _, X.lreturnOut hx hr hd hrr, hrun, hended, _, _, rfl, hP, ⟨_, rfl⟩, hW, hsame.mono hc hs⟩
theorem own_retV (X : Stand p l e R s m args below meth c T locs cells slots) (C : own_Ctx p s m meth c Z y bytes maxL none) {pc : Nat} {Ls : Array Slot} {CC SS : Nat}
    (hd : decode c.code pc = .ok (.return_, 1)) (hP : P none T.heap locs) (hc : cells ≤ CC) (hs : slots ≤ SS) : own_WP p e below (own_Q s P CC SS) T (mkF m pc Ls []) := by
  obtain ⟨hx, -, -, -, -, -, hr, hlk⟩ := C
  obtain ⟨fs, hrr, hrun, hended, hW, hsame⟩ := X.leave (v := none) (fun _ => rfl) hlk
  exact ⟨_, _, X.returnOut hx hr hd hrr, hrun, hended, _, _, rfl, hP, ⟨_, rfl⟩, hW, hsame.mono hc hs⟩
theorem own_retA {t : FieldType} (X : Stand p l e R s m args below meth c T locs cells slots) (C : own_Ctx p s m meth c Z y bytes maxL (some t)) (ht : t.isReference = true) {pc : Nat} {Ls : Array Slot} {a : Addr} {CC SS : Nat}
    (hd : decode c.code pc = .ok (.areturn, 1)) (hP : P (some (.ref a)) T.heap locs) (hc : cells ≤ CC) (hs : slots ≤ SS) : own_WP p e below (own_Q s P CC SS) T (mkF m pc Ls [.ref a]) := by
  obtain ⟨hx, -, -, -, -, -, hr, hlk⟩ := C
  obtain ⟨fs, hrr, hrun, hended, hW, hsame⟩ := X.leave (v := some (.ref a)) (fun h => by rw [hr] at h; cases h) hlk
  exact ⟨_, _, X.areturnOut hx rfl hr ht hd hrr, hrun, hended, _, _, rfl, hP, ⟨_, rfl⟩, hW, hsame.mono hc hs⟩
/-- a static call by the callee's contract -/
theorem own_callS (X : Stand p l e R s m args below meth c T locs cells slots) (C : own_Ctx p s m meth c Z y bytes maxL rt) {idx : Nat} {y' : MethodName} {bytes' : ByteArray} {maxL' : Nat} {rt' : Option FieldType} {rm' : Room} {argsL rest : List Value} {h : Heap} {P' : Option Value → Heap → List Loc → Prop}
    (hM : own_Met l Z y' bytes' maxL' rt' [] rm' argsL.toArray h P') (w1 : (Cond.methodLink y.cls idx y').before a0 Z = true) (w2 : (Cond.static y').before a0 Z = true) (w3 : (Cond.initialized y'.cls).before a0 Z = true) (w4 : (Cond.code y' bytes' maxL' rt').before a0 Z = true)
    (hy : y'.cls ≠ "java/lang/invoke/MethodHandle" ∧ y'.cls ≠ "java/lang/invoke/VarHandle") (eT : T.heap = h) {W : Nat} {pc : Nat} {Ls : Array Slot} (hsz : Ls.size = maxL) (hlen : ∀ sig, parseMethodDescriptor y'.desc = some sig → argsL.length = sig.parameters.length)
    {stk : List Value} (hst : stk = argsL.reverse ++ rest) (hW : (rest.map fun v => v.category).sum ≤ W) (hd : decode c.code pc = .ok (.invokestatic idx, 3))
    (hf : rm'.frames + 1 ≤ R.frames) (hl : W + (maxL' + 11) + rm'.locals ≤ R.locals) (hc : cells + rm'.cells ≤ R.cells) (hs : slots + rm'.slots ≤ R.slots) :
    ∃ T' v L, Stand p l e R s m args below meth c T' (locs ++ L) (cells + rm'.cells) (slots + rm'.slots) ∧ P' v T'.heap L ∧ ∀ t, Steps p.tables e below (T'.setTop (mkF m (pc + 3) Ls (v.toList ++ rest))) t → Steps p.tables e below (T.setTop (mkF m pc Ls stk)) t := by
  obtain ⟨hx, hZ, hby, hml, hown, hnm, hr, hlk⟩ := C
  obtain ⟨v, _, ⟨T', L', k', n'⟩, -, X', ⟨L, hQ, hl', hk', hn'⟩, st⟩ := Jvm.LawKit.callS X hx (y := y') hown (mvT hZ w1) (mvT hZ w2) (mvT hZ w3) (mvT hZ w4) hy (backOf (W := W) hM hZ w4 w3 hf hl) (g := mkF m pc Ls stk) rfl (by rw [hml]; exact hsz) (argsL := argsL) (rest := rest) hlen hst (by show 2 * 0 + _ ≤ _; omega) hd (fun _ _ => ⟨rfl, eT, hc, hs⟩)
  dsimp only [Pt.U, Pt.locs, Pt.cells, Pt.slots] at X' hl' hk' hn' st hQ
  subst hl' hk' hn'
  exact ⟨T', v, L, X', hQ, st⟩
/-- a constructor by its contract -/
theorem own_callN (X : Stand p l e R s m args below meth c T locs cells slots) (C : own_Ctx p s m meth c Z y bytes maxL rt) {idx : Nat} {y' : MethodName} {bytes' : ByteArray} {maxL' : Nat} {rm' : Room} {a : Addr} {argsL rest : List Value} {h : Heap} {P' : Option Value → Heap → List Loc → Prop}
    (hM : own_Met l Z y' bytes' maxL' none [] rm' (.ref a :: argsL).toArray h P') (hyn : y'.name = "<init>") (w1 : (Cond.methodLink y.cls idx y').before a0 Z = true) (w2 : (Cond.instanceMethod y').before a0 Z = true) (w3 : (Cond.initialized y'.cls).before a0 Z = true) (w4 : (Cond.code y' bytes' maxL' none).before a0 Z = true)
    (hy : y'.cls ≠ "java/lang/invoke/MethodHandle" ∧ y'.cls ≠ "java/lang/invoke/VarHandle") (eT : T.heap = h) {W : Nat} {pc : Nat} {Ls : Array Slot} (hsz : Ls.size = maxL) (hlen : ∀ sig, parseMethodDescriptor y'.desc = some sig → argsL.length = sig.parameters.length)
    {stk : List Value} (hst : stk = argsL.reverse ++ .ref a :: rest) (hW : (rest.map fun v => v.category).sum ≤ W) (hd : decode c.code pc = .ok (.invokespecial idx, 3))
    (hf : rm'.frames + 1 ≤ R.frames) (hl : W + (maxL' + 11) + rm'.locals ≤ R.locals) (hc : cells + rm'.cells ≤ R.cells) (hs : slots + rm'.slots ≤ R.slots) :
    ∃ T' v L, Stand p l e R s m args below meth c T' (locs ++ L) (cells + rm'.cells) (slots + rm'.slots) ∧ P' v T'.heap L ∧ ∀ t, Steps p.tables e below (T'.setTop (mkF m (pc + 3) Ls (v.toList ++ rest))) t → Steps p.tables e below (T.setTop (mkF m pc Ls stk)) t := by
  obtain ⟨hx, hZ, hby, hml, hown, hnm, hr, hlk⟩ := C
  obtain ⟨v, _, ⟨T', L', k', n'⟩, -, X', ⟨L, hQ, hl', hk', hn'⟩, st⟩ := X.specialBack hx (y := y') hyn hown (mvT hZ w1) (mvT hZ w2) (mvT hZ w4) hy (backOf (W := W) hM hZ w4 w3 hf hl) (g := mkF m pc Ls stk) rfl (by rw [hml]; exact hsz) (Steps.refl _) (a := a) (argsL := argsL) (rest := rest) hlen hst (by show 2 * 0 + _ ≤ _; omega) hd (fun _ _ => ⟨rfl, eT, hc, hs⟩)
  dsimp only [Pt.U, Pt.locs, Pt.cells, Pt.slots] at X' hl' hk' hn' st hQ
  subst hl' hk' hn'
  exact ⟨T', v, L, X', hQ, fun t k => st.trans k⟩
/-- an instance method by the contract of the body that is selected (the class that declares it is the receiver's own) -/
theorem own_callV (X : Stand p l e R s m args below meth c T locs cells slots) (C : own_Ctx p s m meth c Z y bytes maxL rt) {idx : Nat} {y' : MethodName} {bytes' : ByteArray} {maxL' : Nat} {rt' : Option FieldType} {rm' : Room} {a : Addr} {argsL rest : List Value} {h : Heap} {P' : Option Value → Heap → List Loc → Prop}
    (hM : own_Met l Z y' bytes' maxL' rt' [] rm' (.ref a :: argsL).toArray h P') (w1 : (Cond.methodLink y.cls idx y').before a0 Z = true) (wd : (Cond.declares y').before a0 Z = true) (wsel : (Cond.selects y'.cls y' y').before a0 Z = true) (w2 : (Cond.instanceMethod y').before a0 Z = true) (w3 : (Cond.initialized y'.cls).before a0 Z = true) (w4 : (Cond.code y' bytes' maxL' rt').before a0 Z = true)
    (hy : y'.cls ≠ "java/lang/invoke/MethodHandle" ∧ y'.cls ≠ "java/lang/invoke/VarHandle") (eT : T.heap = h) (E : Exa Z h a y'.cls) {W : Nat} {pc : Nat} {Ls : Array Slot} (hsz : Ls.size = maxL) (hlen : ∀ sig, parseMethodDescriptor y'.desc = some sig → argsL.length = sig.parameters.length)
    {stk : List Value} (hst : stk = argsL.reverse ++ .ref a :: rest) (hW : (rest.map fun v => v.category).sum ≤ W) (hd : decode c.code pc = .ok (.invokevirtual idx, 3))
    (hf : rm'.frames + 1 ≤ R.frames) (hl : W + (maxL' + 11) + rm'.locals ≤ R.locals) (hc : cells + rm'.cells ≤ R.cells) (hs : slots + rm'.slots ≤ R.slots) :
    ∃ T' v L, Stand p l e R s m args below meth c T' (locs ++ L) (cells + rm'.cells) (slots + rm'.slots) ∧ P' v T'.heap L ∧ ∀ t, Steps p.tables e below (T'.setTop (mkF m (pc + 3) Ls (v.toList ++ rest))) t → Steps p.tables e below (T.setTop (mkF m pc Ls stk)) t := by
  obtain ⟨hx, hZ, hby, hml, hown, hnm, hr, hlk⟩ := C
  obtain ⟨cq, kq, qa, qb, qc⟩ := isOf hZ eT E
  obtain ⟨v, _, ⟨T', L', k', n'⟩, -, X', ⟨L, hQ, hl', hk', hn'⟩, st⟩ := X.virtualBack hx (y := y') (z := y') hown (mvT hZ w1) (mvT hZ wd) (notFace_of_selects (args := #[]) (mvT hZ wsel)) (mvT hZ wsel) (mvT hZ w2) hy (backOf (W := W) hM hZ w4 w3 hf hl) qa qc (g := mkF m pc Ls stk) rfl (by rw [hml]; exact hsz) (Steps.refl _) (argsL := argsL) (rest := rest) hlen hst (by show 2 * 0 + _ ≤ _; omega) hd (fun _ _ => ⟨rfl, eT, hc, hs⟩)
  dsimp only [Pt.U, Pt.locs, Pt.cells, Pt.slots] at X' hl' hk' hn' st hQ
  subst hl' hk' hn'
  exact ⟨T', v, L, X', hQ, fun t k => st.trans k⟩
end Own
end Jvm.Pilot.@@N@@
namespace Jvm.Pilot.@@N@@
open Jvm Jvm.ClassFile Sem Op Lib Jvm.Free Jvm.Stand Jvm.LawKit Jvm.RoadKit Bundle Jvm.Pilot.@@N@@.Jvm.D
/-- the array at b holds just vs -/
def own_A (Z : State) (h : Heap) (b : Addr) (ty : FieldType) (vs : List Value) : Prop := Exa Z h b ("[" ++ ty.toString) ∧ ∃ c : Cell, Arr Z h b c ty ∧ c.slots = vs.toArray ∧ vs.length < 2147483648 ∧ ∀ v ∈ vs, fits ty v = true
def own_AI (Z : State) (h : Heap) (b : Addr) (ty : FieldType) (vs : List Int32) : Prop := own_A Z h b ty (vs.map Value.int)
def own_AJ (Z : State) (h : Heap) (b : Addr) (ty : FieldType) (vs : List Int64) : Prop := own_A Z h b ty (vs.map Value.long)
def own_get {α : Type} (vs : List α) (j : Int32) : Option α := if j < 0 then none else vs[j.toNatClampNeg]?
def own_set {α : Type} (vs : List α) (j : Int32) (x : α) : Option (List α) := if j < 0 then none else if j.toNatClampNeg < vs.length then some (vs.set j.toNatClampNeg x) else none
theorem own_bind {α β : Type} {o : Option α} {f : α → Option β} {r : β} (h : o.bind f = some r) : ∃ v, o = some v ∧ f v = some r := by
  cases o with
  | none => cases h
  | some v => exact ⟨v, rfl, h⟩
def own_let {α β : Type} (a : α) (f : α → β) : β := f a
theorem own_letE {α β : Type} {a : α} {f : α → β} {r : β} (h : own_let a f = r) : f a = r := h
theorem own_ne {a b : Nat} (h : a < b ∨ b < a) : @Ne Addr a b := by
  intro e
  rcases h with h | h
  · exact Nat.lt_irrefl _ (e ▸ h)
  · exact Nat.lt_irrefl _ (e ▸ h)
theorem own_cap {n : Int32} {c : Int} {k : Nat} (hk : c = (k : Int)) (h : ¬ c < n.toInt) : n.toNatClampNeg ≤ k := by
  have q : n.toNatClampNeg = n.toInt.toNat := rfl
  rw [q]; omega
section Own
variable {p : Program} {l : Launch} {e : Env} {R : Room} {s : State} {m : MethodId} {args : Array Value} {below : List Frame} {meth : Method} {c : Code} {T T' : State} {locs : List Loc} {cells slots : Nat} {Z : State} {a0 : Array Value} {y : MethodName} {bytes : ByteArray} {maxL : Nat} {rt : Option FieldType} {h h' : Heap} {a b : Addr} {ty : FieldType}
theorem own_A.lt {vs : List Value} (F : own_A Z h b ty vs) : b < h.size := by obtain ⟨E, c, A, -⟩ := F; exact A.lt
theorem own_A.ext {vs : List Value} (F : own_A Z h b ty vs) (E : Ext h h') : own_A Z h' b ty vs := by obtain ⟨Q, c, A, r⟩ := F; exact ⟨Q.ext E, c, A.ext E, r⟩
theorem own_A.other {vs : List Value} {sl : Nat} {v : Value} (F : own_A Z h b ty vs) (W : Wr h h' a sl v) (q : b ≠ a) : own_A Z h' b ty vs := by obtain ⟨Q, c, A, r⟩ := F; exact ⟨Q.wr W, c, A.other W q, r⟩
theorem own_A.keep {vs : List Value} {ws : List Addr} (F : own_A Z h b ty vs) (K : Keep h h' ws) (q : b ∉ ws) : own_A Z h' b ty vs := by obtain ⟨Q, c, A, r⟩ := F; exact ⟨Q.keep K, c, ⟨K.2.1 b c A.1 q, A.2⟩, r⟩
theorem own_A.set {vs : List Value} {j : Nat} {v : Value} (F : own_A Z h b ty vs) (W : Wr h h' b j v) (hv : fits ty v = true) : own_A Z h' b ty (vs.set j v) := by
  obtain ⟨Q, c, A, r1, r2, r3⟩ := F
  refine ⟨Q.wr W, _, A.same W, ?_, by simpa using r2, ?_⟩
  · show c.slots.setIfInBounds j v = _
    rw [r1]; simp
  · intro u hu
    rcases List.mem_or_eq_of_mem_set hu with q | q
    · exact r3 u q
    · rw [q]; exact hv
theorem own_AI.lt {vs : List Int32} (F : own_AI Z h b ty vs) : b < h.size := own_A.lt F
theorem own_AI.ext {vs : List Int32} (F : own_AI Z h b ty vs) (E : Ext h h') : own_AI Z h' b ty vs := own_A.ext F E
theorem own_AI.other {vs : List Int32} {sl : Nat} {v : Value} (F : own_AI Z h b ty vs) (W : Wr h h' a sl v) (q : b ≠ a) : own_AI Z h' b ty vs := own_A.other F W q
theorem own_AI.keep {vs : List Int32} {ws : List Addr} (F : own_AI Z h b ty vs) (K : Keep h h' ws) (q : b ∉ ws) : own_AI Z h' b ty vs := own_A.keep F K q
theorem own_AJ.lt {vs : List Int64} (F : own_AJ Z h b ty vs) : b < h.size := own_A.lt F
theorem own_AJ.ext {vs : List Int64} (F : own_AJ Z h b ty vs) (E : Ext h h') : own_AJ Z h' b ty vs := own_A.ext F E
theorem own_AJ.other {vs : List Int64} {sl : Nat} {v : Value} (F : own_AJ Z h b ty vs) (W : Wr h h' a sl v) (q : b ≠ a) : own_AJ Z h' b ty vs := own_A.other F W q
theorem own_AJ.keep {vs : List Int64} {ws : List Addr} (F : own_AJ Z h b ty vs) (K : Keep h h' ws) (q : b ∉ ws) : own_AJ Z h' b ty vs := own_A.keep F K q
theorem own_A.place {α : Type} {f : α → Value} {vs : List α} {j : Int32} {v : α} (F : own_A Z h b ty (vs.map f)) (g : own_get vs j = some v) : ∃ c : Cell, Arr Z h b c ty ∧ ¬ (j < 0 ∨ c.slots.size ≤ j.toNatClampNeg) ∧ c.slots[j.toNatClampNeg]? = some (f v) := by
  obtain ⟨-, c, A, r1, r2, -⟩ := F
  unfold own_get at g
  split at g
  · cases g
  · rename_i hj
    obtain ⟨hlt, hv⟩ := List.getElem?_eq_some_iff.mp g
    refine ⟨c, A, ?_, ?_⟩
    · rintro (q | q)
      · exact hj q
      · rw [r1] at q; simp at q; omega
    · rw [r1]; simp [g]
theorem own_A.room {α : Type} {f : α → Value} {vs vs' : List α} {j : Int32} {v : α} (F : own_A Z h b ty (vs.map f)) (g : own_set vs j v = some vs') : ∃ c : Cell, Arr Z h b c ty ∧ ¬ (j < 0 ∨ c.slots.size ≤ j.toNatClampNeg) ∧ vs' = vs.set j.toNatClampNeg v := by
  obtain ⟨-, c, A, r1, r2, -⟩ := F
  unfold own_set at g
  split at g
  · cases g
  · rename_i hj
    split at g
    · rename_i hlt
      refine ⟨c, A, ?_, (Option.some.inj g).symm⟩
      rintro (q | q)
      · exact hj q
      · rw [r1] at q; simp at q; omega
    · cases g
theorem own_iaload (X : Stand p l e R s m args below meth c T locs cells slots) (C : own_Ctx p s m meth c Z y bytes maxL rt) (eT : T.heap = h) {vs : List Int32} (F : own_AI Z h b .int vs) {j v : Int32} (g : own_get vs j = some v) {pc : Nat} {Ls : Array Slot} {rest : List Value} (hd : decode c.code pc = .ok (.iaload, 1)) :
    ∀ t, Steps p.tables e below (T.setTop (mkF m (pc + 1) Ls (.int v :: rest))) t → Steps p.tables e below (T.setTop (mkF m pc Ls (.int j :: .ref b :: rest))) t := by
  obtain ⟨hx, hZ, -⟩ := C
  obtain ⟨cl, A, hin, hat⟩ := own_A.place F g
  intro t k
  exact X.iaload hx (j := j) (v := .int v) (by rw [eT]; exact A.1) (State.isArrayOf_alike hZ.alike A.2.1) A.2.2 hin hat (g := mkF m pc Ls (.int j :: .ref b :: rest)) rfl rfl hd t k
theorem own_baload (X : Stand p l e R s m args below meth c T locs cells slots) (C : own_Ctx p s m meth c Z y bytes maxL rt) (eT : T.heap = h) {vs : List Int32} (F : own_AI Z h b .byte vs) {j v : Int32} (g : own_get vs j = some v) {pc : Nat} {Ls : Array Slot} {rest : List Value} (hd : decode c.code pc = .ok (.baload, 1)) :
    ∀ t, Steps p.tables e below (T.setTop (mkF m (pc + 1) Ls (.int v :: rest))) t → Steps p.tables e below (T.setTop (mkF m pc Ls (.int j :: .ref b :: rest))) t := by
  obtain ⟨hx, hZ, -⟩ := C
  obtain ⟨cl, A, hin, hat⟩ := own_A.place F g
  intro t k
  exact X.baloadBytes hx (j := j) (v := .int v) (by rw [eT]; exact A.1) (State.isArrayOf_alike hZ.alike A.2.1) A.2.2 hin hat (g := mkF m pc Ls (.int j :: .ref b :: rest)) rfl rfl hd t k
theorem own_laload (X : Stand p l e R s m args below meth c T locs cells slots) (C : own_Ctx p s m meth c Z y bytes maxL rt) (eT : T.heap = h) {vs : List Int64} (F : own_AJ Z h b .long vs) {j : Int32} {v : Int64} (g : own_get vs j = some v) {pc : Nat} {Ls : Array Slot} {rest : List Value} (hd : decode c.code pc = .ok (.laload, 1)) :
    ∀ t, Steps p.tables e below (T.setTop (mkF m (pc + 1) Ls (.long v :: rest))) t → Steps p.tables e below (T.setTop (mkF m pc Ls (.int j :: .ref b :: rest))) t := by
  obtain ⟨hx, hZ, -⟩ := C
  obtain ⟨cl, A, hin, hat⟩ := own_A.place F g
  intro t k
  exact X.laload hx (j := j) (v := .long v) (by rw [eT]; exact A.1) (State.isArrayOf_alike hZ.alike A.2.1) A.2.2 hin hat (g := mkF m pc Ls (.int j :: .ref b :: rest)) rfl rfl hd t k
theorem own_len (X : Stand p l e R s m args below meth c T locs cells slots) (C : own_Ctx p s m meth c Z y bytes maxL rt) (eT : T.heap = h) {vs : List Value} (F : own_A Z h b ty vs) {pc : Nat} {Ls : Array Slot} {rest : List Value} (hd : decode c.code pc = .ok (.arraylength, 1)) :
    ∀ t, Steps p.tables e below (T.setTop (mkF m (pc + 1) Ls (.int (Int32.ofNat vs.length) :: rest))) t → Steps p.tables e below (T.setTop (mkF m pc Ls (.ref b :: rest))) t := by
  obtain ⟨hx, hZ, -⟩ := C
  obtain ⟨-, cl, A, r1, r2, -⟩ := F
  intro t k
  refine X.arraylength hx (by rw [eT]; exact A.1) (State.isArrayOf_alike hZ.alike A.2.1) (g := mkF m pc Ls (.ref b :: rest)) rfl rfl hd t ?_
  have q : cl.slots.size.toInt32 = Int32.ofNat vs.length := by
    rw [r1, List.size_toArray]
  rw [q]; exact k
theorem own_lenI (X : Stand p l e R s m args below meth c T locs cells slots) (C : own_Ctx p s m meth c Z y bytes maxL rt) (eT : T.heap = h) {vs : List Int32} (F : own_AI Z h b ty vs) {pc : Nat} {Ls : Array Slot} {rest : List Value} (hd : decode c.code pc = .ok (.arraylength, 1)) :
    ∀ t, Steps p.tables e below (T.setTop (mkF m (pc + 1) Ls (.int (Int32.ofNat vs.length) :: rest))) t → Steps p.tables e below (T.setTop (mkF m pc Ls (.ref b :: rest))) t := by
  have k := own_len X C eT F (Ls := Ls) (rest := rest) hd
  rwa [List.length_map] at k
theorem own_lenJ (X : Stand p l e R s m args below meth c T locs cells slots) (C : own_Ctx p s m meth c Z y bytes maxL rt) (eT : T.heap = h) {vs : List Int64} (F : own_AJ Z h b ty vs) {pc : Nat} {Ls : Array Slot} {rest : List Value} (hd : decode c.code pc = .ok (.arraylength, 1)) :
    ∀ t, Steps p.tables e below (T.setTop (mkF m (pc + 1) Ls (.int (Int32.ofNat vs.length) :: rest))) t → Steps p.tables e below (T.setTop (mkF m pc Ls (.ref b :: rest))) t := by
  have k := own_len X C eT F (Ls := Ls) (rest := rest) hd
  rwa [List.length_map] at k
theorem own_iastore (X : Stand p l e R s m args below meth c T locs cells slots) (C : own_Ctx p s m meth c Z y bytes maxL rt) (eT : T.heap = h) {vs vs' : List Int32} (F : own_AI Z h b .int vs) {j x : Int32} (g : own_set vs j x = some vs') {pc : Nat} {Ls : Array Slot} {rest : List Value} (hd : decode c.code pc = .ok (.iastore, 1)) :
    ∃ T' h', Stand p l e R s m args below meth c T' (locs ++ [⟨b, j.toNatClampNeg⟩]) cells slots ∧ T'.heap = h' ∧ Wr h h' b j.toNatClampNeg (.int x) ∧ own_AI Z h' b .int vs' ∧
      ∀ t, Steps p.tables e below (T'.setTop (mkF m (pc + 1) Ls rest)) t → Steps p.tables e below (T.setTop (mkF m pc Ls (.int x :: .int j :: .ref b :: rest))) t := by
  obtain ⟨hx, hZ, -⟩ := C
  obtain ⟨cl, A, hin, rfl⟩ := own_A.room F g
  obtain ⟨T', h', X', e', W, st⟩ := stI X hx hZ eT A (j := j) (x := x) hin (g := mkF m pc Ls (.int x :: .int j :: .ref b :: rest)) rfl rfl hd
  refine ⟨T', h', X', e', W, ?_, st⟩
  have k := own_A.set F W rfl
  unfold own_AI
  rwa [List.map_set]
theorem own_lastore (X : Stand p l e R s m args below meth c T locs cells slots) (C : own_Ctx p s m meth c Z y bytes maxL rt) (eT : T.heap = h) {vs vs' : List Int64} (F : own_AJ Z h b .long vs) {j : Int32} {x : Int64} (g : own_set vs j x = some vs') {pc : Nat} {Ls : Array Slot} {rest : List Value} (hd : decode c.code pc = .ok (.lastore, 1)) :
    ∃ T' h', Stand p l e R s m args below meth c T' (locs ++ [⟨b, j.toNatClampNeg⟩]) cells slots ∧ T'.heap = h' ∧ Wr h h' b j.toNatClampNeg (.long x) ∧ own_AJ Z h' b .long vs' ∧
      ∀ t, Steps p.tables e below (T'.setTop (mkF m (pc + 1) Ls rest)) t → Steps p.tables e below (T.setTop (mkF m pc Ls (.long x :: .int j :: .ref b :: rest))) t := by
  obtain ⟨hx, hZ, -⟩ := C
  obtain ⟨cl, A, hin, rfl⟩ := own_A.room F g
  obtain ⟨T', h', X', e', W, st⟩ := stJ X hx hZ eT A (j := j) (x := x) hin (g := mkF m pc Ls (.long x :: .int j :: .ref b :: rest)) rfl rfl hd
  refine ⟨T', h', X', e', W, ?_, st⟩
  have k := own_A.set F W rfl
  unfold own_AJ
  rwa [List.map_set]
theorem own_bastore (X : Stand p l e R s m args below meth c T locs cells slots) (C : own_Ctx p s m meth c Z y bytes maxL rt) (eT : T.heap = h) {vs vs' : List Int32} (F : own_AI Z h b .byte vs) {j x : Int32} (g : own_set vs j (x.toInt8.toInt32) = some vs') {pc : Nat} {Ls : Array Slot} {rest : List Value} (hd : decode c.code pc = .ok (.bastore, 1)) :
    ∃ T' h', Stand p l e R s m args below meth c T' (locs ++ [⟨b, j.toNatClampNeg⟩]) cells slots ∧ T'.heap = h' ∧ Wr h h' b j.toNatClampNeg (.int (x.toInt8.toInt32)) ∧ own_AI Z h' b .byte vs' ∧
      ∀ t, Steps p.tables e below (T'.setTop (mkF m (pc + 1) Ls rest)) t → Steps p.tables e below (T.setTop (mkF m pc Ls (.int x :: .int j :: .ref b :: rest))) t := by
  obtain ⟨hx, hZ, -⟩ := C
  obtain ⟨cl, A, hin, rfl⟩ := own_A.room F g
  obtain ⟨T', h', X', e', W, st⟩ := stB X hx hZ eT A (j := j) (x := x) hin (g := mkF m pc Ls (.int x :: .int j :: .ref b :: rest)) rfl rfl hd
  refine ⟨T', h', X', e', W, ?_, st⟩
  have k := own_A.set F W (fits_nar_byte x)
  unfold own_AI
  rwa [List.map_set]
theorem own_newI (X : Stand p l e R s m args below meth c T locs cells slots) (C : own_Ctx p s m meth c Z y bytes maxL rt) (eT : T.heap = h) {aty : ArrayType} (hk : newarray.typeOf aty = ty) (hdv : defaultValue ty = .int 0) (hfz : fits ty (.int 0) = true) (w : (Cond.arrayClass ty).before a0 Z = true) {n : Int32} (hn : ¬ n < 0) {cap : Nat} (hcap : n.toNatClampNeg ≤ cap) (hb : cap * 8 ≤ 536870912) (hc : cells + 1 ≤ R.cells) (hl : slots + cap ≤ R.slots)
    {pc : Nat} {Ls : Array Slot} {rest : List Value} (hd : decode c.code pc = .ok (.newarray aty, 2)) :
    ∃ T' h' b, Stand p l e R s m args below meth c T' locs (cells + 1) (slots + cap) ∧ T'.heap = h' ∧ Ext h h' ∧ b = h.size ∧ own_AI Z h' b ty (List.replicate n.toNatClampNeg 0) ∧
      ∀ t, Steps p.tables e below (T'.setTop (mkF m (pc + 2) Ls (.ref b :: rest))) t → Steps p.tables e below (T.setTop (mkF m pc Ls (.int n :: rest))) t := by
  obtain ⟨hx, hZ, -⟩ := C
  subst hk
  obtain ⟨T', h', k, X', e', E, A, Q, st⟩ := newPE X hx hZ w eT (g := mkF m pc Ls (.int n :: rest)) rfl hd rfl hn (cap := cap) hcap hb hc hl rfl
  refine ⟨T', h', h.size, X', e', E, rfl, ⟨Q, _, A, ?_, ?_, ?_⟩, st⟩
  · show Array.replicate _ _ = _
    rw [hdv]; simp
  · rw [List.map_replicate, List.length_replicate]; omega
  · intro v hv
    rw [List.map_replicate] at hv
    rw [List.eq_of_mem_replicate hv]
    exact hfz
theorem own_newJ (X : Stand p l e R s m args below meth c T locs cells slots) (C : own_Ctx p s m meth c Z y bytes maxL rt) (eT : T.heap = h) {aty : ArrayType} (hk : newarray.typeOf aty = ty) (hdv : defaultValue ty = .long 0) (hfz : fits ty (.long 0) = true) (w : (Cond.arrayClass ty).before a0 Z = true) {n : Int32} (hn : ¬ n < 0) {cap : Nat} (hcap : n.toNatClampNeg ≤ cap) (hb : cap * 8 ≤ 536870912) (hc : cells + 1 ≤ R.cells) (hl : slots + cap ≤ R.slots)
    {pc : Nat} {Ls : Array Slot} {rest : List Value} (hd : decode c.code pc = .ok (.newarray aty, 2)) :
    ∃ T' h' b, Stand p l e R s m args below meth c T' locs (cells + 1) (slots + cap) ∧ T'.heap = h' ∧ Ext h h' ∧ b = h.size ∧ own_AJ Z h' b ty (List.replicate n.toNatClampNeg 0) ∧
      ∀ t, Steps p.tables e below (T'.setTop (mkF m (pc + 2) Ls (.ref b :: rest))) t → Steps p.tables e below (T.setTop (mkF m pc Ls (.int n :: rest))) t := by
  obtain ⟨hx, hZ, -⟩ := C
  subst hk
  obtain ⟨T', h', k, X', e', E, A, Q, st⟩ := newPE X hx hZ w eT (g := mkF m pc Ls (.int n :: rest)) rfl hd rfl hn (cap := cap) hcap hb hc hl rfl
  refine ⟨T', h', h.size, X', e', E, rfl, ⟨Q, _, A, ?_, ?_, ?_⟩, st⟩
  · show Array.replicate _ _ = _
    rw [hdv]; simp
  · rw [List.map_replicate, List.length_replicate]; omega
  · intro v hv
    rw [List.map_replicate] at hv
    rw [List.eq_of_mem_replicate hv]
    exact hfz
end Own
end Jvm.Pilot.@@N@@
namespace Jvm.Pilot.@@N@@
open Jvm Jvm.ClassFile Sem Op Lib Jvm.Free Jvm.Stand Jvm.LawKit Jvm.RoadKit Bundle Jvm.Pilot.@@N@@.Jvm.D
theorem d1_0 : decode method_2_code 0 = .ok (.lload_n 2, 1) := by decide +kernel
theorem d1_1 : decode method_2_code 1 = .ok (.iconst 2, 1) := by decide +kernel
theorem d1_2 : decode method_2_code 2 = .ok (.iload 4, 2) := by decide +kernel
theorem d1_4 : decode method_2_code 4 = .ok (.imul, 1) := by decide +kernel
theorem d1_5 : decode method_2_code 5 = .ok (.lushr, 1) := by decide +kernel
theorem d1_6 : decode method_2_code 6 = .ok (.ldc2_w 7, 3) := by decide +kernel
theorem d1_9 : decode method_2_code 9 = .ok (.land, 1) := by decide +kernel
theorem d1_10 : decode method_2_code 10 = .ok (.l2i, 1) := by decide +kernel
theorem d1_11 : decode method_2_code 11 = .ok (.istore 5, 2) := by decide +kernel
theorem d1_13 : decode method_2_code 13 = .ok (.iload 5, 2) := by decide +kernel
theorem d1_15 : decode method_2_code 15 = .ok (.ifCond .ne 6, 3) := by decide +kernel
theorem d1_18 : decode method_2_code 18 = .ok (.bipush 10, 2) := by decide +kernel
theorem d1_20 : decode method_2_code 20 = .ok (.ireturn, 1) := by decide +kernel
theorem d1_21 : decode method_2_code 21 = .ok (.iload 5, 2) := by decide +kernel
theorem d1_23 : decode method_2_code 23 = .ok (.iconst 1, 1) := by decide +kernel
theorem d1_24 : decode method_2_code 24 = .ok (.if_icmp .ne 6, 3) := by decide +kernel
theorem d1_27 : decode method_2_code 27 = .ok (.bipush 13, 2) := by decide +kernel
theorem d1_29 : decode method_2_code 29 = .ok (.ireturn, 1) := by decide +kernel
theorem d1_30 : decode method_2_code 30 = .ok (.lload_n 0, 1) := by decide +kernel
theorem d1_31 : decode method_2_code 31 = .ok (.bipush 8, 2) := by decide +kernel
theorem d1_33 : decode method_2_code 33 = .ok (.iload 4, 2) := by decide +kernel
theorem d1_35 : decode method_2_code 35 = .ok (.imul, 1) := by decide +kernel
theorem d1_36 : decode method_2_code 36 = .ok (.lushr, 1) := by decide +kernel
theorem d1_37 : decode method_2_code 37 = .ok (.l2i, 1) := by decide +kernel
theorem d1_38 : decode method_2_code 38 = .ok (.i2b, 1) := by decide +kernel
theorem d1_39 : decode method_2_code 39 = .ok (.ireturn, 1) := by decide +kernel
def rmR1 : Room := { frames := 0, cells := 0, slots := 0, locals := 0 }
def f1_13 (x0 : Int64) (x4 : Int32) (x5 : Int32) : Int32 := (if x5 = (0 : Int32) then (nar .byte (10 : Int32)) else (if x5 = (1 : Int32) then (nar .byte (13 : Int32)) else (nar .byte (((XT.ushrL x0 ((8 : Int32) * x4)).toInt32).toInt8.toInt32))))
set_option maxRecDepth 65536 in
set_option maxHeartbeats 40000000 in
theorem b1_13 {p : Program} {l : Launch} {e : Env} {s : State} {m : MethodId} {args : Array Value} {below : List Frame} {meth : Method} {c : Code} {T : State} {locs : List Loc} {Z : State} {a0 : Array Value} {h0 : Heap} {P : Option Value → Heap → List Loc → Prop} (hw : ∀ d ∈ tables_1, d.before a0 Z = true) (C : own_Ctx p s m meth c Z (⟨"com/example/loomcast/loomcast/SipMessageHeadEndPinLaw", "pick", "(JJI)B"⟩ : MethodName) method_2_code 6 (some .byte))
    (X : Stand p l e rmR1 s m args below meth c T locs 0 0) (e0 : T.heap = h0) (x0 : Int64) (x2 : Int64) (x4 : Int32) (x5 : Int32) (r : Int32) (hv : f1_13 x0 x4 x5 = r) (hP : P (some (.int r)) h0 locs) :
    own_WP p e below (own_Q s P rmR1.cells rmR1.slots) T (mkF m 13 #[.val (.long x0), .second, .val (.long x2), .second, .val (.int x4), .val (.int x5)] []) := by
  obtain ⟨hx, hZ, hby, hml, hown, hnm, hret, hlk⟩ := id C
  unfold f1_13 at hv
  show own_WP p e below _ T (mkF m 13 #[.val (.long x0), .second, .val (.long x2), .second, .val (.int x4), .val (.int x5)] [])
  refine own_go (fun _ => XS.iload X.here hx rfl (hb hby d1_13) rfl) ?_
  show own_WP p e below _ T (mkF m 15 #[.val (.long x0), .second, .val (.long x2), .second, .val (.int x4), .val (.int x5)] [(.int x5)])
  by_cases h15 : x5 = (0 : Int32)
  · replace hv := (if_pos h15).symm.trans hv
    refine own_go (fun _ => XS.ifNo X.here hx rfl (hb hby d1_15) rfl (XT.i0_ne_f h15)) ?_
    show own_WP p e below _ T (mkF m 18 #[.val (.long x0), .second, .val (.long x2), .second, .val (.int x4), .val (.int x5)] [])
    refine own_go (fun _ => XS.bipush X.here hx rfl (hb hby d1_18)) ?_
    show own_WP p e below _ T (mkF m 20 #[.val (.long x0), .second, .val (.long x2), .second, .val (.int x4), .val (.int x5)] [(.int (10 : Int32))])
    subst hv e0; exact own_retN X C (by simp) (hb hby d1_20) hP (by decide) (by decide)
  · replace hv := (if_neg h15).symm.trans hv
    refine own_go (fun _ => XS.ifYes X.here hx rfl (pc0 := 15) (pc' := 21) rfl (hb hby d1_15) rfl (XT.i0_ne_t h15) (by decide) (by decide)) ?_
    show own_WP p e below _ T (mkF m 21 #[.val (.long x0), .second, .val (.long x2), .second, .val (.int x4), .val (.int x5)] [])
    refine own_go (fun _ => XS.iload X.here hx rfl (hb hby d1_21) rfl) ?_
    show own_WP p e below _ T (mkF m 23 #[.val (.long x0), .second, .val (.long x2), .second, .val (.int x4), .val (.int x5)] [(.int x5)])
    refine own_go (fun _ => XS.iconst X.here hx rfl (hb hby d1_23)) ?_
    show own_WP p e below _ T (mkF m 24 #[.val (.long x0), .second, .val (.long x2), .second, .val (.int x4), .val (.int x5)] [(.int (1 : Int32)), (.int x5)])
    by_cases h24 : x5 = (1 : Int32)
    · replace hv := (if_pos h24).symm.trans hv
      refine own_go (fun _ => XS.icmpNo X.here hx rfl (hb hby d1_24) rfl (XT.ii_ne_f h24)) ?_
      show own_WP p e below _ T (mkF m 27 #[.val (.long x0), .second, .val (.long x2), .second, .val (.int x4), .val (.int x5)] [])
      refine own_go (fun _ => XS.bipush X.here hx rfl (hb hby d1_27)) ?_
      show own_WP p e below _ T (mkF m 29 #[.val (.long x0), .second, .val (.long x2), .second, .val (.int x4), .val (.int x5)] [(.int (13 : Int32))])
      subst hv e0; exact own_retN X C (by simp) (hb hby d1_29) hP (by decide) (by decide)
    · replace hv := (if_neg h24).symm.trans hv
      refine own_go (fun _ => XS.icmpYes X.here hx rfl (pc0 := 24) (pc' := 30) rfl (hb hby d1_24) rfl (XT.ii_ne_t h24) (by decide) (by decide)) ?_
      show own_WP p e below _ T (mkF m 30 #[.val (.long x0), .second, .val (.long x2), .second, .val (.int x4), .val (.int x5)] [])
      refine own_go (fun _ => XS.lloadN X.here hx rfl (hb hby d1_30) rfl) ?_
      show own_WP p e below _ T (mkF m 31 #[.val (.long x0), .second, .val (.long x2), .second, .val (.int x4), .val (.int x5)] [(.long x0)])
      refine own_go (fun _ => XS.bipush X.here hx rfl (hb hby d1_31)) ?_
      show own_WP p e below _ T (mkF m 33 #[.val (.long x0), .second, .val (.long x2), .second, .val (.int x4), .val (.int x5)] [(.int (8 : Int32)), (.long x0)])
      refine own_go (fun _ => XS.iload X.here hx rfl (hb hby d1_33) rfl) ?_
      show own_WP p e below _ T (mkF m 35 #[.val (.long x0), .second, .val (.long x2), .second, .val (.int x4), .val (.int x5)] [(.int x4), (.int (8 : Int32)), (.long x0)])
      refine own_go (fun _ => XS.imul X.here hx rfl (hb hby d1_35) rfl) ?_
      show own_WP p e below _ T (mkF m 36 #[.val (.long x0), .second, .val (.long x2), .second, .val (.int x4), .val (.int x5)] [(.int ((8 : Int32) * x4)), (.long x0)])
      refine own_go (fun _ => XT.lushr X.here hx rfl (hb hby d1_36) rfl) ?_
      show own_WP p e below _ T (mkF m 37 #[.val (.long x0), .second, .val (.long x2), .second, .val (.int x4), .val (.int x5)] [(.long (XT.ushrL x0 ((8 : Int32) * x4)))])
      refine own_go (fun _ => XS.l2i X.here hx rfl (hb hby d1_37) rfl) ?_
      show own_WP p e below _ T (mkF m 38 #[.val (.long x0), .second, .val (.long x2), .second, .val (.int x4), .val (.int x5)] [(.int ((XT.ushrL x0 ((8 : Int32) * x4)).toInt32))])
      refine own_go (fun _ => XS.i2b X.here hx rfl (hb hby d1_38) rfl) ?_
      show own_WP p e below _ T (mkF m 39 #[.val (.long x0), .second, .val (.long x2), .second, .val (.int x4), .val (.int x5)] [(.int (((XT.ushrL x0 ((8 : Int32) * x4)).toInt32).toInt8.toInt32))])
      subst hv e0; exact own_retN X C (by simp) (hb hby d1_39) hP (by decide) (by decide)
def f1_0 (x0 : Int64) (x2 : Int64) (x4 : Int32) : Int32 := (f1_13 x0 x4 (((XT.ushrL x2 ((2 : Int32) * x4)) &&& (3 : Int64)).toInt32))
set_option maxRecDepth 65536 in
set_option maxHeartbeats 40000000 in
theorem b1_0 {p : Program} {l : Launch} {e : Env} {s : State} {m : MethodId} {args : Array Value} {below : List Frame} {meth : Method} {c : Code} {T : State} {locs : List Loc} {Z : State} {a0 : Array Value} {h0 : Heap} {P : Option Value → Heap → List Loc → Prop} (hw : ∀ d ∈ tables_1, d.before a0 Z = true) (C : own_Ctx p s m meth c Z (⟨"com/example/loomcast/loomcast/SipMessageHeadEndPinLaw", "pick", "(JJI)B"⟩ : MethodName) method_2_code 6 (some .byte))
    (X : Stand p l e rmR1 s m args below meth c T locs 0 0) (e0 : T.heap = h0) (x0 : Int64) (x2 : Int64) (x4 : Int32) (r : Int32) (hv : f1_0 x0 x2 x4 = r) (hP : P (some (.int r)) h0 locs) :
    own_WP p e below (own_Q s P rmR1.cells rmR1.slots) T (mkF m 0 #[.val (.long x0), .second, .val (.long x2), .second, .val (.int x4), .unset] []) := by
  obtain ⟨hx, hZ, hby, hml, hown, hnm, hret, hlk⟩ := id C
  unfold f1_0 at hv
  show own_WP p e below _ T (mkF m 0 #[.val (.long x0), .second, .val (.long x2), .second, .val (.int x4), .unset] [])
  refine own_go (fun _ => XS.lloadN X.here hx rfl (hb hby d1_0) rfl) ?_
  show own_WP p e below _ T (mkF m 1 #[.val (.long x0), .second, .val (.long x2), .second, .val (.int x4), .unset] [(.long x2)])
  refine own_go (fun _ => XS.iconst X.here hx rfl (hb hby d1_1)) ?_
  show own_WP p e below _ T (mkF m 2 #[.val (.long x0), .second, .val (.long x2), .second, .val (.int x4), .unset] [(.int (2 : Int32)), (.long x2)])
  refine own_go (fun _ => XS.iload X.here hx rfl (hb hby d1_2) rfl) ?_
  show own_WP p e below _ T (mkF m 4 #[.val (.long x0), .second, .val (.long x2), .second, .val (.int x4), .unset] [(.int x4), (.int (2 : Int32)), (.long x2)])
  refine own_go (fun _ => XS.imul X.here hx rfl (hb hby d1_4) rfl) ?_
  show own_WP p e below _ T (mkF m 5 #[.val (.long x0), .second, .val (.long x2), .second, .val (.int x4), .unset] [(.int ((2 : Int32) * x4)), (.long x2)])
  refine own_go (fun _ => XT.lushr X.here hx rfl (hb hby d1_5) rfl) ?_
  show own_WP p e below _ T (mkF m 6 #[.val (.long x0), .second, .val (.long x2), .second, .val (.int x4), .unset] [(.long (XT.ushrL x2 ((2 : Int32) * x4)))])
  refine own_go (X.ldc2Long hx hown (mvT hZ (hw _ (List.mem_of_getElem? (i := 5) rfl))) (g := (mkF m 6 #[.val (.long x0), .second, .val (.long x2), .second, .val (.int x4), .unset] [(.long (XT.ushrL x2 ((2 : Int32) * x4)))])) rfl (hb hby d1_6)) ?_
  show own_WP p e below _ T (mkF m 9 #[.val (.long x0), .second, .val (.long x2), .second, .val (.int x4), .unset] [(.long (3 : Int64)), (.long (XT.ushrL x2 ((2 : Int32) * x4)))])
  refine own_go (fun _ => XS.land X.here hx rfl (hb hby d1_9) rfl) ?_
  show own_WP p e below _ T (mkF m 10 #[.val (.long x0), .second, .val (.long x2), .second, .val (.int x4), .unset] [(.long ((XT.ushrL x2 ((2 : Int32) * x4)) &&& (3 : Int64)))])
  refine own_go (fun _ => XS.l2i X.here hx rfl (hb hby d1_10) rfl) ?_
  show own_WP p e below _ T (mkF m 11 #[.val (.long x0), .second, .val (.long x2), .second, .val (.int x4), .unset] [(.int (((XT.ushrL x2 ((2 : Int32) * x4)) &&& (3 : Int64)).toInt32))])
  refine own_go (fun _ => XS.istore X.here hx rfl (hb hby d1_11) rfl (l' := #[.val (.long x0), .second, .val (.long x2), .second, .val (.int x4), .val (.int (((XT.ushrL x2 ((2 : Int32) * x4)) &&& (3 : Int64)).toInt32))]) rfl) ?_
  exact b1_13 hw C X e0 x0 x2 x4 (((XT.ushrL x2 ((2 : Int32) * x4)) &&& (3 : Int64)).toInt32) r hv hP
theorem ef1 (m : MethodId) (x0 : Int64) (x2 : Int64) (x4 : Int32) : entryFrame m #[(.long x0), (.long x2), (.int x4)] 6 = (mkF m 0 #[.val (.long x0), .second, .val (.long x2), .second, .val (.int x4), .unset] []) := by first | (simp [entryFrame, mkF, argsToLocals, Value.category]; done) | rfl
theorem pd1 : parseMethodDescriptor "(JJI)B" = some ⟨[.long, .long, .int], some .byte⟩ := by decide +kernel
theorem pn1 : plainFor (⟨"com/example/loomcast/loomcast/SipMessageHeadEndPinLaw", "pick", "(JJI)B"⟩ : MethodName) = true := plainFor_of_name (by first | (simp [plainName, overriddenIn]; done) | decide +kernel)
theorem rm1 (l : Launch) (Z : State) (a0 : Array Value) (hw : ∀ d ∈ tables_1, d.before a0 Z = true) (x0 : Int64) (x2 : Int64) (x4 : Int32) (h0 : Heap) : own_Met l Z (⟨"com/example/loomcast/loomcast/SipMessageHeadEndPinLaw", "pick", "(JJI)B"⟩ : MethodName) method_2_code 6 (some .byte) [] rmR1 #[(.long x0), (.long x2), (.int x4)] h0 (fun v h L => v = some (.int (f1_0 x0 x2 x4)) ∧ L = [] ∧ h = h0) := by
  refine own_body pn1 ?_
  intro p e s m below meth c s₁ C X e0
  exact own_cast (ef1 m x0 x2 x4) (b1_0 hw C X e0 x0 x2 x4 _ rfl ⟨rfl, rfl, rfl⟩)
theorem d3_0 : decode method_3_code 0 = .ok (.aload_n 0, 1) := by decide +kernel
theorem d3_1 : decode method_3_code 1 = .ok (.iload_n 2, 1) := by decide +kernel
theorem d3_2 : decode method_3_code 2 = .ok (.baload, 1) := by decide +kernel
theorem d3_3 : decode method_3_code 3 = .ok (.bipush 10, 2) := by decide +kernel
theorem d3_5 : decode method_3_code 5 = .ok (.if_icmp .eq 5, 3) := by decide +kernel
theorem d3_8 : decode method_3_code 8 = .ok (.iconst 0, 1) := by decide +kernel
theorem d3_9 : decode method_3_code 9 = .ok (.ireturn, 1) := by decide +kernel
theorem d3_10 : decode method_3_code 10 = .ok (.iload_n 2, 1) := by decide +kernel
theorem d3_11 : decode method_3_code 11 = .ok (.iconst 1, 1) := by decide +kernel
theorem d3_12 : decode method_3_code 12 = .ok (.isub, 1) := by decide +kernel
theorem d3_13 : decode method_3_code 13 = .ok (.iload_n 1, 1) := by decide +kernel
theorem d3_14 : decode method_3_code 14 = .ok (.if_icmp .lt 15, 3) := by decide +kernel
theorem d3_17 : decode method_3_code 17 = .ok (.aload_n 0, 1) := by decide +kernel
theorem d3_18 : decode method_3_code 18 = .ok (.iload_n 2, 1) := by decide +kernel
theorem d3_19 : decode method_3_code 19 = .ok (.iconst 1, 1) := by decide +kernel
theorem d3_20 : decode method_3_code 20 = .ok (.isub, 1) := by decide +kernel
theorem d3_21 : decode method_3_code 21 = .ok (.baload, 1) := by decide +kernel
theorem d3_22 : decode method_3_code 22 = .ok (.bipush 10, 2) := by decide +kernel
theorem d3_24 : decode method_3_code 24 = .ok (.if_icmp .ne 5, 3) := by decide +kernel
theorem d3_27 : decode method_3_code 27 = .ok (.iconst 1, 1) := by decide +kernel
theorem d3_28 : decode method_3_code 28 = .ok (.ireturn, 1) := by decide +kernel
theorem d3_29 : decode method_3_code 29 = .ok (.iload_n 2, 1) := by decide +kernel
theorem d3_30 : decode method_3_code 30 = .ok (.iconst 2, 1) := by decide +kernel
theorem d3_31 : decode method_3_code 31 = .ok (.isub, 1) := by decide +kernel
theorem d3_32 : decode method_3_code 32 = .ok (.iload_n 1, 1) := by decide +kernel
theorem d3_33 : decode method_3_code 33 = .ok (.if_icmp .lt 27, 3) := by decide +kernel
theorem d3_36 : decode method_3_code 36 = .ok (.aload_n 0, 1) := by decide +kernel
theorem d3_37 : decode method_3_code 37 = .ok (.iload_n 2, 1) := by decide +kernel
theorem d3_38 : decode method_3_code 38 = .ok (.iconst 1, 1) := by decide +kernel
theorem d3_39 : decode method_3_code 39 = .ok (.isub, 1) := by decide +kernel
theorem d3_40 : decode method_3_code 40 = .ok (.baload, 1) := by decide +kernel
theorem d3_41 : decode method_3_code 41 = .ok (.bipush 13, 2) := by decide +kernel
theorem d3_43 : decode method_3_code 43 = .ok (.if_icmp .ne 17, 3) := by decide +kernel
theorem d3_46 : decode method_3_code 46 = .ok (.aload_n 0, 1) := by decide +kernel
theorem d3_47 : decode method_3_code 47 = .ok (.iload_n 2, 1) := by decide +kernel
theorem d3_48 : decode method_3_code 48 = .ok (.iconst 2, 1) := by decide +kernel
theorem d3_49 : decode method_3_code 49 = .ok (.isub, 1) := by decide +kernel
theorem d3_50 : decode method_3_code 50 = .ok (.baload, 1) := by decide +kernel
theorem d3_51 : decode method_3_code 51 = .ok (.bipush 10, 2) := by decide +kernel
theorem d3_53 : decode method_3_code 53 = .ok (.if_icmp .ne 7, 3) := by decide +kernel
theorem d3_56 : decode method_3_code 56 = .ok (.iconst 1, 1) := by decide +kernel
theorem d3_57 : decode method_3_code 57 = .ok (.goto 4, 3) := by decide +kernel
theorem d3_60 : decode method_3_code 60 = .ok (.iconst 0, 1) := by decide +kernel
theorem d3_61 : decode method_3_code 61 = .ok (.ireturn, 1) := by decide +kernel
def rmR3 : Room := { frames := 0, cells := 0, slots := 0, locals := 0 }
def E3 (Z : State) (h0 : Heap) (o0 : Nat) (vs : List Int32) (rr : Int32) (v : Option Value) (h : Heap) : Prop := v = some (.int rr)
def f3_29 (vs : List Int32) (x1 : Int32) (x2 : Int32) : Option (Int32) := (if (x2 - (2 : Int32)) < x1 then (some (0 : Int32)) else ((own_get vs (x2 - (1 : Int32))).bind fun w2 => (if w2 = (13 : Int32) then ((own_get vs (x2 - (2 : Int32))).bind fun w3 => (if w3 = (10 : Int32) then (some (1 : Int32)) else (some (0 : Int32)))) else (some (0 : Int32)))))
set_option maxRecDepth 65536 in
set_option maxHeartbeats 40000000 in
theorem b3_29 {p : Program} {l : Launch} {e : Env} {s : State} {m : MethodId} {args : Array Value} {below : List Frame} {meth : Method} {c : Code} {Z : State} {a0 : Array Value} {h0 : Heap} {n0 : Nat} {P : Option Value → Heap → List Loc → Prop} (hw : ∀ d ∈ tables_1, d.before a0 Z = true) (C : own_Ctx p s m meth c Z (⟨"com/example/loomcast/loomcast/SipMessageHeadEndPinLaw", "endsEmpty", "([BII)Z"⟩ : MethodName) method_3_code 3 (some .boolean)) (Z0 : n0 ≤ h0.size) {o0 : Nat} {vs : List Int32} (rr : Int32) (hP : ∀ v h L, Fr n0 L → Keep h0 h [] → E3 Z h0 o0 vs rr v h → P v h L)
    {T : State} {locs : List Loc} {h : Heap} (X : Stand p l e rmR3 s m args below meth c T locs 0 0) (e0 : T.heap = h) (N : Fr n0 locs) (K : Keep h0 h []) (g_o0 : n0 ≤ o0) (V_o0 : own_AI Z h o0 .byte vs) (x1 : Int32) (x2 : Int32) (hv : f3_29 vs x1 x2 = some rr) :
    own_WP p e below (own_Q s P rmR3.cells rmR3.slots) T (mkF m 29 #[.val (.ref o0), .val (.int x1), .val (.int x2)] []) := by
  obtain ⟨hx, hZ, hby, hml, hown, hnm, hret, hlk⟩ := id C
  replace hown : s.vm.findClass "com/example/loomcast/loomcast/SipMessageHeadEndPinLaw" = some m.cls := hown
  unfold f3_29 at hv
  show own_WP p e below _ T (mkF m 29 #[.val (.ref o0), .val (.int x1), .val (.int x2)] [])
  refine own_go (fun _ => XS.iloadN X.here hx rfl (hb hby d3_29) rfl) ?_
  show own_WP p e below _ T (mkF m 30 #[.val (.ref o0), .val (.int x1), .val (.int x2)] [(.int x2)])
  refine own_go (fun _ => XS.iconst X.here hx rfl (hb hby d3_30)) ?_
  show own_WP p e below _ T (mkF m 31 #[.val (.ref o0), .val (.int x1), .val (.int x2)] [(.int (2 : Int32)), (.int x2)])
  refine own_go (fun _ => XS.isub X.here hx rfl (hb hby d3_31) rfl) ?_
  show own_WP p e below _ T (mkF m 32 #[.val (.ref o0), .val (.int x1), .val (.int x2)] [(.int (x2 - (2 : Int32)))])
  refine own_go (fun _ => XS.iloadN X.here hx rfl (hb hby d3_32) rfl) ?_
  show own_WP p e below _ T (mkF m 33 #[.val (.ref o0), .val (.int x1), .val (.int x2)] [(.int x1), (.int (x2 - (2 : Int32)))])
  by_cases h33 : (x2 - (2 : Int32)) < x1
  · replace hv := (if_pos h33).symm.trans hv
    refine own_go (fun _ => XS.icmpYes X.here hx rfl (pc0 := 33) (pc' := 60) rfl (hb hby d3_33) rfl (XT.ii_lt_t h33) (by decide) (by decide)) ?_
    show own_WP p e below _ T (mkF m 60 #[.val (.ref o0), .val (.int x1), .val (.int x2)] [])
    refine own_go (fun _ => XS.iconst X.here hx rfl (hb hby d3_60)) ?_
    show own_WP p e below _ T (mkF m 61 #[.val (.ref o0), .val (.int x1), .val (.int x2)] [(.int (0 : Int32))])
    obtain rfl := Option.some.inj hv
    exact own_retN X C (by simp) (hb hby d3_61) (by rw [e0]; exact hP _ _ _ N K rfl) (by decide) (by decide)
  · replace hv := (if_neg h33).symm.trans hv
    refine own_go (fun _ => XS.icmpNo X.here hx rfl (hb hby d3_33) rfl (XT.ii_lt_f h33)) ?_
    show own_WP p e below _ T (mkF m 36 #[.val (.ref o0), .val (.int x1), .val (.int x2)] [])
    refine own_go (fun _ => XS.aloadN X.here hx rfl (hb hby d3_36) rfl rfl) ?_
    show own_WP p e below _ T (mkF m 37 #[.val (.ref o0), .val (.int x1), .val (.int x2)] [(.ref o0)])
    refine own_go (fun _ => XS.iloadN X.here hx rfl (hb hby d3_37) rfl) ?_
    show own_WP p e below _ T (mkF m 38 #[.val (.ref o0), .val (.int x1), .val (.int x2)] [(.int x2), (.ref o0)])
    refine own_go (fun _ => XS.iconst X.here hx rfl (hb hby d3_38)) ?_
    show own_WP p e below _ T (mkF m 39 #[.val (.ref o0), .val (.int x1), .val (.int x2)] [(.int (1 : Int32)), (.int x2), (.ref o0)])
    refine own_go (fun _ => XS.isub X.here hx rfl (hb hby d3_39) rfl) ?_
    show own_WP p e below _ T (mkF m 40 #[.val (.ref o0), .val (.int x1), .val (.int x2)] [(.int (x2 - (1 : Int32))), (.ref o0)])
    obtain ⟨w2, hg2, hv⟩ := own_bind hv
    refine own_go (own_baload X C e0 V_o0 hg2 (hb hby d3_40)) ?_
    show own_WP p e below _ T (mkF m 41 #[.val (.ref o0), .val (.int x1), .val (.int x2)] [(.int w2)])
    refine own_go (fun _ => XS.bipush X.here hx rfl (hb hby d3_41)) ?_
    show own_WP p e below _ T (mkF m 43 #[.val (.ref o0), .val (.int x1), .val (.int x2)] [(.int (13 : Int32)), (.int w2)])
    by_cases h43 : w2 = (13 : Int32)
    · replace hv := (if_pos h43).symm.trans hv
      refine own_go (fun _ => XS.icmpNo X.here hx rfl (hb hby d3_43) rfl (XT.ii_ne_f h43)) ?_
      show own_WP p e below _ T (mkF m 46 #[.val (.ref o0), .val (.int x1), .val (.int x2)] [])
      refine own_go (fun _ => XS.aloadN X.here hx rfl (hb hby d3_46) rfl rfl) ?_
      show own_WP p e below _ T (mkF m 47 #[.val (.ref o0), .val (.int x1), .val (.int x2)] [(.ref o0)])
      refine own_go (fun _ => XS.iloadN X.here hx rfl (hb hby d3_47) rfl) ?_
      show own_WP p e below _ T (mkF m 48 #[.val (.ref o0), .val (.int x1), .val (.int x2)] [(.int x2), (.ref o0)])
      refine own_go (fun _ => XS.iconst X.here hx rfl (hb hby d3_48)) ?_
      show own_WP p e below _ T (mkF m 49 #[.val (.ref o0), .val (.int x1), .val (.int x2)] [(.int (2 : Int32)), (.int x2), (.ref o0)])
      refine own_go (fun _ => XS.isub X.here hx rfl (hb hby d3_49) rfl) ?_
      show own_WP p e below _ T (mkF m 50 #[.val (.ref o0), .val (.int x1), .val (.int x2)] [(.int (x2 - (2 : Int32))), (.ref o0)])
      obtain ⟨w3, hg3, hv⟩ := own_bind hv
      refine own_go (own_baload X C e0 V_o0 hg3 (hb hby d3_50)) ?_
      show own_WP p e below _ T (mkF m 51 #[.val (.ref o0), .val (.int x1), .val (.int x2)] [(.int w3)])
      refine own_go (fun _ => XS.bipush X.here hx rfl (hb hby d3_51)) ?_
      show own_WP p e below _ T (mkF m 53 #[.val (.ref o0), .val (.int x1), .val (.int x2)] [(.int (10 : Int32)), (.int w3)])
      by_cases h53 : w3 = (10 : Int32)
      · replace hv := (if_pos h53).symm.trans hv
        refine own_go (fun _ => XS.icmpNo X.here hx rfl (hb hby d3_53) rfl (XT.ii_ne_f h53)) ?_
        show own_WP p e below _ T (mkF m 56 #[.val (.ref o0), .val (.int x1), .val (.int x2)] [])
        refine own_go (fun _ => XS.iconst X.here hx rfl (hb hby d3_56)) ?_
        show own_WP p e below _ T (mkF m 57 #[.val (.ref o0), .val (.int x1), .val (.int x2)] [(.int (1 : Int32))])
        refine own_go (fun _ => XS.goto X.here hx rfl (pc0 := 57) (pc' := 61) rfl (hb hby d3_57) (by decide) (by decide)) ?_
        show own_WP p e below _ T (mkF m 61 #[.val (.ref o0), .val (.int x1), .val (.int x2)] [(.int (1 : Int32))])
        obtain rfl := Option.some.inj hv
        exact own_retN X C (by simp) (hb hby d3_61) (by rw [e0]; exact hP _ _ _ N K rfl) (by decide) (by decide)
      · replace hv := (if_neg h53).symm.trans hv
        refine own_go (fun _ => XS.icmpYes X.here hx rfl (pc0 := 53) (pc' := 60) rfl (hb hby d3_53) rfl (XT.ii_ne_t h53) (by decide) (by decide)) ?_
        show own_WP p e below _ T (mkF m 60 #[.val (.ref o0), .val (.int x1), .val (.int x2)] [])
        refine own_go (fun _ => XS.iconst X.here hx rfl (hb hby d3_60)) ?_
        show own_WP p e below _ T (mkF m 61 #[.val (.ref o0), .val (.int x1), .val (.int x2)] [(.int (0 : Int32))])
        obtain rfl := Option.some.inj hv
        exact own_retN X C (by simp) (hb hby d3_61) (by rw [e0]; exact hP _ _ _ N K rfl) (by decide) (by decide)
    · replace hv := (if_neg h43).symm.trans hv
      refine own_go (fun _ => XS.icmpYes X.here hx rfl (pc0 := 43) (pc' := 60) rfl (hb hby d3_43) rfl (XT.ii_ne_t h43) (by decide) (by decide)) ?_
      show own_WP p e below _ T (mkF m 60 #[.val (.ref o0), .val (.int x1), .val (.int x2)] [])
      refine own_go (fun _ => XS.iconst X.here hx rfl (hb hby d3_60)) ?_
      show own_WP p e below _ T (mkF m 61 #[.val (.ref o0), .val (.int x1), .val (.int x2)] [(.int (0 : Int32))])
      obtain rfl := Option.some.inj hv
      exact own_retN X C (by simp) (hb hby d3_61) (by rw [e0]; exact hP _ _ _ N K rfl) (by decide) (by decide)
def f3_0 (vs : List Int32) (x1 : Int32) (x2 : Int32) : Option (Int32) := ((own_get vs x2).bind fun w1 => (if w1 = (10 : Int32) then (if (x2 - (1 : Int32)) < x1 then (f3_29 vs x1 x2) else ((own_get vs (x2 - (1 : Int32))).bind fun w4 => (if w4 = (10 : Int32) then (some (1 : Int32)) else (f3_29 vs x1 x2)))) else (some (0 : Int32))))
set_option maxRecDepth 65536 in
set_option maxHeartbeats 40000000 in
theorem b3_0 {p : Program} {l : Launch} {e : Env} {s : State} {m : MethodId} {args : Array Value} {below : List Frame} {meth : Method} {c : Code} {Z : State} {a0 : Array Value} {h0 : Heap} {n0 : Nat} {P : Option Value → Heap → List Loc → Prop} (hw : ∀ d ∈ tables_1, d.before a0 Z = true) (C : own_Ctx p s m meth c Z (⟨"com/example/loomcast/loomcast/SipMessageHeadEndPinLaw", "endsEmpty", "([BII)Z"⟩ : MethodName) method_3_code 3 (some .boolean)) (Z0 : n0 ≤ h0.size) {o0 : Nat} {vs : List Int32} (rr : Int32) (hP : ∀ v h L, Fr n0 L → Keep h0 h [] → E3 Z h0 o0 vs rr v h → P v h L)
    {T : State} {locs : List Loc} {h : Heap} (X : Stand p l e rmR3 s m args below meth c T locs 0 0) (e0 : T.heap = h) (N : Fr n0 locs) (K : Keep h0 h []) (g_o0 : n0 ≤ o0) (V_o0 : own_AI Z h o0 .byte vs) (x1 : Int32) (x2 : Int32) (hv : f3_0 vs x1 x2 = some rr) :
    own_WP p e below (own_Q s P rmR3.cells rmR3.slots) T (mkF m 0 #[.val (.ref o0), .val (.int x1), .val (.int x2)] []) := by
  obtain ⟨hx, hZ, hby, hml, hown, hnm, hret, hlk⟩ := id C
  replace hown : s.vm.findClass "com/example/loomcast/loomcast/SipMessageHeadEndPinLaw" = some m.cls := hown
  unfold f3_0 at hv
  show own_WP p e below _ T (mkF m 0 #[.val (.ref o0), .val (.int x1), .val (.int x2)] [])
  refine own_go (fun _ => XS.aloadN X.here hx rfl (hb hby d3_0) rfl rfl) ?_
  show own_WP p e below _ T (mkF m 1 #[.val (.ref o0), .val (.int x1), .val (.int x2)] [(.ref o0)])
  refine own_go (fun _ => XS.iloadN X.here hx rfl (hb hby d3_1) rfl) ?_
  show own_WP p e below _ T (mkF m 2 #[.val (.ref o0), .val (.int x1), .val (.int x2)] [(.int x2), (.ref o0)])
  obtain ⟨w1, hg1, hv⟩ := own_bind hv
  refine own_go (own_baload X C e0 V_o0 hg1 (hb hby d3_2)) ?_
  show own_WP p e below _ T (mkF m 3 #[.val (.ref o0), .val (.int x1), .val (.int x2)] [(.int w1)])
  refine own_go (fun _ => XS.bipush X.here hx rfl (hb hby d3_3)) ?_
  show own_WP p e below _ T (mkF m 5 #[.val (.ref o0), .val (.int x1), .val (.int x2)] [(.int (10 : Int32)), (.int w1)])
  by_cases h5 : w1 = (10 : Int32)
  · replace hv := (if_pos h5).symm.trans hv
    refine own_go (fun _ => XS.icmpYes X.here hx rfl (pc0 := 5) (pc' := 10) rfl (hb hby d3_5) rfl (XT.ii_eq_t h5) (by decide) (by decide)) ?_
    show own_WP p e below _ T (mkF m 10 #[.val (.ref o0), .val (.int x1), .val (.int x2)] [])
    refine own_go (fun _ => XS.iloadN X.here hx rfl (hb hby d3_10) rfl) ?_
    show own_WP p e below _ T (mkF m 11 #[.val (.ref o0), .val (.int x1), .val (.int x2)] [(.int x2)])
    refine own_go (fun _ => XS.iconst X.here hx rfl (hb hby d3_11)) ?_
    show own_WP p e below _ T (mkF m 12 #[.val (.ref o0), .val (.int x1), .val (.int x2)] [(.int (1 : Int32)), (.int x2)])
    refine own_go (fun _ => XS.isub X.here hx rfl (hb hby d3_12) rfl) ?_
    show own_WP p e below _ T (mkF m 13 #[.val (.ref o0), .val (.int x1), .val (.int x2)] [(.int (x2 - (1 : Int32)))])
    refine own_go (fun _ => XS.iloadN X.here hx rfl (hb hby d3_13) rfl) ?_
    show own_WP p e below _ T (mkF m 14 #[.val (.ref o0), .val (.int x1), .val (.int x2)] [(.int x1), (.int (x2 - (1 : Int32)))])
    by_cases h14 : (x2 - (1 : Int32)) < x1
    · replace hv := (if_pos h14).symm.trans hv
      refine own_go (fun _ => XS.icmpYes X.here hx rfl (pc0 := 14) (pc' := 29) rfl (hb hby d3_14) rfl (XT.ii_lt_t h14) (by decide) (by decide)) ?_
      exact b3_29 hw C Z0 rr hP X e0 N K g_o0 V_o0 x1 x2 hv
    · replace hv := (if_neg h14).symm.trans hv
      refine own_go (fun _ => XS.icmpNo X.here hx rfl (hb hby d3_14) rfl (XT.ii_lt_f h14)) ?_
      show own_WP p e below _ T (mkF m 17 #[.val (.ref o0), .val (.int x1), .val (.int x2)] [])
      refine own_go (fun _ => XS.aloadN X.here hx rfl (hb hby d3_17) rfl rfl) ?_
      show own_WP p e below _ T (mkF m 18 #[.val (.ref o0), .val (.int x1), .val (.int x2)] [(.ref o0)])
      refine own_go (fun _ => XS.iloadN X.here hx rfl (hb hby d3_18) rfl) ?_
      show own_WP p e below _ T (mkF m 19 #[.val (.ref o0), .val (.int x1), .val (.int x2)] [(.int x2), (.ref o0)])
      refine own_go (fun _ => XS.iconst X.here hx rfl (hb hby d3_19)) ?_
      show own_WP p e below _ T (mkF m 20 #[.val (.ref o0), .val (.int x1), .val (.int x2)] [(.int (1 : Int32)), (.int x2), (.ref o0)])
      refine own_go (fun _ => XS.isub X.here hx rfl (hb hby d3_20) rfl) ?_
      show own_WP p e below _ T (mkF m 21 #[.val (.ref o0), .val (.int x1), .val (.int x2)] [(.int (x2 - (1 : Int32))), (.ref o0)])
      obtain ⟨w4, hg4, hv⟩ := own_bind hv
      refine own_go (own_baload X C e0 V_o0 hg4 (hb hby d3_21)) ?_
      show own_WP p e below _ T (mkF m 22 #[.val (.ref o0), .val (.int x1), .val (.int x2)] [(.int w4)])
      refine own_go (fun _ => XS.bipush X.here hx rfl (hb hby d3_22)) ?_
      show own_WP p e below _ T (mkF m 24 #[.val (.ref o0), .val (.int x1), .val (.int x2)] [(.int (10 : Int32)), (.int w4)])
      by_cases h24 : w4 = (10 : Int32)
      · replace hv := (if_pos h24).symm.trans hv
        refine own_go (fun _ => XS.icmpNo X.here hx rfl (hb hby d3_24) rfl (XT.ii_ne_f h24)) ?_
        show own_WP p e below _ T (mkF m 27 #[.val (.ref o0), .val (.int x1), .val (.int x2)] [])
        refine own_go (fun _ => XS.iconst X.here hx rfl (hb hby d3_27)) ?_
        show own_WP p e below _ T (mkF m 28 #[.val (.ref o0), .val (.int x1), .val (.int x2)] [(.int (1 : Int32))])
        obtain rfl := Option.some.inj hv
        exact own_retN X C (by simp) (hb hby d3_28) (by rw [e0]; exact hP _ _ _ N K rfl) (by decide) (by decide)
      · replace hv := (if_neg h24).symm.trans hv
        refine own_go (fun _ => XS.icmpYes X.here hx rfl (pc0 := 24) (pc' := 29) rfl (hb hby d3_24) rfl (XT.ii_ne_t h24) (by decide) (by decide)) ?_
        exact b3_29 hw C Z0 rr hP X e0 N K g_o0 V_o0 x1 x2 hv
  · replace hv := (if_neg h5).symm.trans hv
    refine own_go (fun _ => XS.icmpNo X.here hx rfl (hb hby d3_5) rfl (XT.ii_eq_f h5)) ?_
    show own_WP p e below _ T (mkF m 8 #[.val (.ref o0), .val (.int x1), .val (.int x2)] [])
    refine own_go (fun _ => XS.iconst X.here hx rfl (hb hby d3_8)) ?_
    show own_WP p e below _ T (mkF m 9 #[.val (.ref o0), .val (.int x1), .val (.int x2)] [(.int (0 : Int32))])
    obtain rfl := Option.some.inj hv
    exact own_retN X C (by simp) (hb hby d3_9) (by rw [e0]; exact hP _ _ _ N K rfl) (by decide) (by decide)
theorem ef3 (m : MethodId) (o0 : Nat) (x1 : Int32) (x2 : Int32) : entryFrame m #[(.ref o0), (.int x1), (.int x2)] 3 = (mkF m 0 #[.val (.ref o0), .val (.int x1), .val (.int x2)] []) := by first | (simp [entryFrame, mkF, argsToLocals, Value.category]; done) | rfl
theorem pd3 : parseMethodDescriptor "([BII)Z" = some ⟨[(.array .byte), .int, .int], some .boolean⟩ := by decide +kernel
theorem pn3 : plainFor (⟨"com/example/loomcast/loomcast/SipMessageHeadEndPinLaw", "endsEmpty", "([BII)Z"⟩ : MethodName) = true := plainFor_of_name (by first | (simp [plainName, overriddenIn]; done) | decide +kernel)
theorem rm3 (l : Launch) (Z : State) (a0 : Array Value) (hw : ∀ d ∈ tables_1, d.before a0 Z = true) (n0 : Nat) (h0 : Heap) (Z0 : n0 ≤ h0.size) {o0 : Nat} {vs : List Int32}  (g_o0 : n0 ≤ o0) (V_o0 : own_AI Z h0 o0 .byte vs) (x1 : Int32) (x2 : Int32)  (rr : Int32) (hf : f3_0 vs x1 x2 = some rr) :
    own_Met l Z (⟨"com/example/loomcast/loomcast/SipMessageHeadEndPinLaw", "endsEmpty", "([BII)Z"⟩ : MethodName) method_3_code 3 (some .boolean) [] rmR3 #[(.ref o0), (.int x1), (.int x2)] h0 (fun v h L => Fr n0 L ∧ Keep h0 h [] ∧ E3 Z h0 o0 vs rr v h) := by
  refine own_body pn3 ?_
  intro p e s m below meth c s₁ C X e0
  exact own_cast (ef3 m o0 x1 x2) (b3_0 hw C Z0 rr (fun v h L a b c => ⟨a, b, c⟩) X e0 (Fr.nil n0) (Keep.refl h0 []) g_o0 V_o0 x1 x2 hf)
theorem d2_0 : decode method_4_code 0 = .ok (.iload_n 3, 1) := by decide +kernel
theorem d2_1 : decode method_4_code 1 = .ok (.iload_n 1, 1) := by decide +kernel
theorem d2_2 : decode method_4_code 2 = .ok (.if_icmp .lt 21, 3) := by decide +kernel
theorem d2_5 : decode method_4_code 5 = .ok (.iload_n 3, 1) := by decide +kernel
theorem d2_6 : decode method_4_code 6 = .ok (.iload_n 2, 1) := by decide +kernel
theorem d2_7 : decode method_4_code 7 = .ok (.if_icmp .ge 16, 3) := by decide +kernel
theorem d2_10 : decode method_4_code 10 = .ok (.aload_n 0, 1) := by decide +kernel
theorem d2_11 : decode method_4_code 11 = .ok (.iload_n 1, 1) := by decide +kernel
theorem d2_12 : decode method_4_code 12 = .ok (.iload_n 3, 1) := by decide +kernel
theorem d2_13 : decode method_4_code 13 = .ok (.invokestatic 9, 3) := by decide +kernel
theorem d2_16 : decode method_4_code 16 = .ok (.ifCond .eq 7, 3) := by decide +kernel
theorem d2_19 : decode method_4_code 19 = .ok (.iload_n 3, 1) := by decide +kernel
theorem d2_20 : decode method_4_code 20 = .ok (.iconst 1, 1) := by decide +kernel
theorem d2_21 : decode method_4_code 21 = .ok (.iadd, 1) := by decide +kernel
theorem d2_22 : decode method_4_code 22 = .ok (.ireturn, 1) := by decide +kernel
theorem d2_23 : decode method_4_code 23 = .ok (.iload 4, 2) := by decide +kernel
theorem d2_25 : decode method_4_code 25 = .ok (.ireturn, 1) := by decide +kernel
def rmR2 : Room := { frames := 1, cells := 0, slots := 0, locals := 14 }
def E2 (Z : State) (h0 : Heap) (o0 : Nat) (vs : List Int32) (rr : Int32) (v : Option Value) (h : Heap) : Prop := v = some (.int rr)
def f2_0 (vs : List Int32) (x1 : Int32) (x2 : Int32) (x3 : Int32) (x4 : Int32) : Option (Int32) := (if x3 < x1 then (some x4) else (if x3 < x2 then ((f3_0 vs x1 x3).bind fun rr1 => (if rr1 = (0 : Int32) then (some x4) else (some (x3 + (1 : Int32))))) else (some x4)))
set_option maxRecDepth 65536 in
set_option maxHeartbeats 40000000 in
theorem b2_0 {p : Program} {l : Launch} {e : Env} {s : State} {m : MethodId} {args : Array Value} {below : List Frame} {meth : Method} {c : Code} {Z : State} {a0 : Array Value} {h0 : Heap} {n0 : Nat} {P : Option Value → Heap → List Loc → Prop} (hw : ∀ d ∈ tables_1, d.before a0 Z = true) (C : own_Ctx p s m meth c Z (⟨"com/example/loomcast/loomcast/SipMessageHeadEndPinLaw", "step", "([BIIII)I"⟩ : MethodName) method_4_code 5 (some .int)) (Z0 : n0 ≤ h0.size) {o0 : Nat} {vs : List Int32} (rr : Int32) (hP : ∀ v h L, Fr n0 L → Keep h0 h [] → E2 Z h0 o0 vs rr v h → P v h L)
    {T : State} {locs : List Loc} {h : Heap} (X : Stand p l e rmR2 s m args below meth c T locs 0 0) (e0 : T.heap = h) (N : Fr n0 locs) (K : Keep h0 h []) (g_o0 : n0 ≤ o0) (V_o0 : own_AI Z h o0 .byte vs) (x1 : Int32) (x2 : Int32) (x3 : Int32) (x4 : Int32) (hv : f2_0 vs x1 x2 x3 x4 = some rr) :
    own_WP p e below (own_Q s P rmR2.cells rmR2.slots) T (mkF m 0 #[.val (.ref o0), .val (.int x1), .val (.int x2), .val (.int x3), .val (.int x4)] []) := by
  obtain ⟨hx, hZ, hby, hml, hown, hnm, hret, hlk⟩ := id C
  replace hown : s.vm.findClass "com/example/loomcast/loomcast/SipMessageHeadEndPinLaw" = some m.cls := hown
  unfold f2_0 at hv
  show own_WP p e below _ T (mkF m 0 #[.val (.ref o0), .val (.int x1), .val (.int x2), .val (.int x3), .val (.int x4)] [])
  refine own_go (fun _ => XS.iloadN X.here hx rfl (hb hby d2_0) rfl) ?_
  show own_WP p e below _ T (mkF m 1 #[.val (.ref o0), .val (.int x1), .val (.int x2), .val (.int x3), .val (.int x4)] [(.int x3)])
  refine own_go (fun _ => XS.iloadN X.here hx rfl (hb hby d2_1) rfl) ?_
  show own_WP p e below _ T (mkF m 2 #[.val (.ref o0), .val (.int x1), .val (.int x2), .val (.int x3), .val (.int x4)] [(.int x1), (.int x3)])
  by_cases h2 : x3 < x1
  · replace hv := (if_pos h2).symm.trans hv
    refine own_go (fun _ => XS.icmpYes X.here hx rfl (pc0 := 2) (pc' := 23) rfl (hb hby d2_2) rfl (XT.ii_lt_t h2) (by decide) (by decide)) ?_
    show own_WP p e below _ T (mkF m 23 #[.val (.ref o0), .val (.int x1), .val (.int x2), .val (.int x3), .val (.int x4)] [])
    refine own_go (fun _ => XS.iload X.here hx rfl (hb hby d2_23) rfl) ?_
    show own_WP p e below _ T (mkF m 25 #[.val (.ref o0), .val (.int x1), .val (.int x2), .val (.int x3), .val (.int x4)] [(.int x4)])
    obtain rfl := Option.some.inj hv
    exact own_retI X C (hb hby d2_25) (by rw [e0]; exact hP _ _ _ N K rfl) (by decide) (by decide)
  · replace hv := (if_neg h2).symm.trans hv
    refine own_go (fun _ => XS.icmpNo X.here hx rfl (hb hby d2_2) rfl (XT.ii_lt_f h2)) ?_
    show own_WP p e below _ T (mkF m 5 #[.val (.ref o0), .val (.int x1), .val (.int x2), .val (.int x3), .val (.int x4)] [])
    refine own_go (fun _ => XS.iloadN X.here hx rfl (hb hby d2_5) rfl) ?_
    show own_WP p e below _ T (mkF m 6 #[.val (.ref o0), .val (.int x1), .val (.int x2), .val (.int x3), .val (.int x4)] [(.int x3)])
    refine own_go (fun _ => XS.iloadN X.here hx rfl (hb hby d2_6) rfl) ?_
    show own_WP p e below _ T (mkF m 7 #[.val (.ref o0), .val (.int x1), .val (.int x2), .val (.int x3), .val (.int x4)] [(.int x2), (.int x3)])
    by_cases h7 : x3 < x2
    · replace hv := (if_pos h7).symm.trans hv
      refine own_go (fun _ => XS.icmpNo X.here hx rfl (hb hby d2_7) rfl (XT.ii_ge_f h7)) ?_
      show own_WP p e below _ T (mkF m 10 #[.val (.ref o0), .val (.int x1), .val (.int x2), .val (.int x3), .val (.int x4)] [])
      refine own_go (fun _ => XS.aloadN X.here hx rfl (hb hby d2_10) rfl rfl) ?_
      show own_WP p e below _ T (mkF m 11 #[.val (.ref o0), .val (.int x1), .val (.int x2), .val (.int x3), .val (.int x4)] [(.ref o0)])
      refine own_go (fun _ => XS.iloadN X.here hx rfl (hb hby d2_11) rfl) ?_
      show own_WP p e below _ T (mkF m 12 #[.val (.ref o0), .val (.int x1), .val (.int x2), .val (.int x3), .val (.int x4)] [(.int x1), (.ref o0)])
      refine own_go (fun _ => XS.iloadN X.here hx rfl (hb hby d2_12) rfl) ?_
      show own_WP p e below _ T (mkF m 13 #[.val (.ref o0), .val (.int x1), .val (.int x2), .val (.int x3), .val (.int x4)] [(.int x3), (.int x1), (.ref o0)])
      obtain ⟨rr1, hf1, hv⟩ := own_bind hv
      obtain ⟨T1, v1, L1, X1, ⟨N1, K1, Q1⟩, st1⟩ := own_callS X C (argsL := [(.ref o0), (.int x1), (.int x3)]) (rm3 l Z a0 hw n0 h (by have q := K.1; omega) (by omega) V_o0 x1 x3 rr1 hf1) (hw _ (List.mem_of_getElem? (i := 10) rfl)) (hw _ (List.mem_of_getElem? (i := 11) rfl)) (hw _ (List.mem_of_getElem? (i := 3) rfl)) (hw _ (List.mem_of_getElem? (i := 12) rfl)) (by decide) e0 (W := 0) (pc := 13) (Ls := #[.val (.ref o0), .val (.int x1), .val (.int x2), .val (.int x3), .val (.int x4)]) rfl (lenOf pd3 rfl) (rest := []) (stk := [(.int x3), (.int x1), (.ref o0)]) rfl (Nat.le_of_ble_eq_true rfl) (hb hby d2_13) (by decide) (by decide) (by decide) (by decide)
      replace N := Fr.app N N1
      replace V_o0 := V_o0.keep K1 nin0
      obtain ⟨rfl⟩ := Q1
      replace K := K.trans K1 all0
      refine own_go st1 ?_
      show own_WP p e below _ T1 (mkF m 16 #[.val (.ref o0), .val (.int x1), .val (.int x2), .val (.int x3), .val (.int x4)] [(.int rr1)])
      by_cases h16 : rr1 = (0 : Int32)
      · replace hv := (if_pos h16).symm.trans hv
        refine own_go (fun _ => XS.ifYes X1.here hx rfl (pc0 := 16) (pc' := 23) rfl (hb hby d2_16) rfl (XT.i0_eq_t h16) (by decide) (by decide)) ?_
        show own_WP p e below _ T1 (mkF m 23 #[.val (.ref o0), .val (.int x1), .val (.int x2), .val (.int x3), .val (.int x4)] [])
        refine own_go (fun _ => XS.iload X1.here hx rfl (hb hby d2_23) rfl) ?_
        show own_WP p e below _ T1 (mkF m 25 #[.val (.ref o0), .val (.int x1), .val (.int x2), .val (.int x3), .val (.int x4)] [(.int x4)])
        obtain rfl := Option.some.inj hv
        exact own_retI X1 C (hb hby d2_25) (hP _ _ _ N K rfl) (by decide) (by decide)
      · replace hv := (if_neg h16).symm.trans hv
        refine own_go (fun _ => XS.ifNo X1.here hx rfl (hb hby d2_16) rfl (XT.i0_eq_f h16)) ?_
        show own_WP p e below _ T1 (mkF m 19 #[.val (.ref o0), .val (.int x1), .val (.int x2), .val (.int x3), .val (.int x4)] [])
        refine own_go (fun _ => XS.iloadN X1.here hx rfl (hb hby d2_19) rfl) ?_
        show own_WP p e below _ T1 (mkF m 20 #[.val (.ref o0), .val (.int x1), .val (.int x2), .val (.int x3), .val (.int x4)] [(.int x3)])
        refine own_go (fun _ => XS.iconst X1.here hx rfl (hb hby d2_20)) ?_
        show own_WP p e below _ T1 (mkF m 21 #[.val (.ref o0), .val (.int x1), .val (.int x2), .val (.int x3), .val (.int x4)] [(.int (1 : Int32)), (.int x3)])
        refine own_go (fun _ => XS.iadd X1.here hx rfl (hb hby d2_21) rfl) ?_
        show own_WP p e below _ T1 (mkF m 22 #[.val (.ref o0), .val (.int x1), .val (.int x2), .val (.int x3), .val (.int x4)] [(.int (x3 + (1 : Int32)))])
        obtain rfl := Option.some.inj hv
        exact own_retI X1 C (hb hby d2_22) (hP _ _ _ N K rfl) (by decide) (by decide)
    · replace hv := (if_neg h7).symm.trans hv
      refine own_go (fun _ => XS.icmpYes X.here hx rfl (pc0 := 7) (pc' := 23) rfl (hb hby d2_7) rfl (XT.ii_ge_t h7) (by decide) (by decide)) ?_
      show own_WP p e below _ T (mkF m 23 #[.val (.ref o0), .val (.int x1), .val (.int x2), .val (.int x3), .val (.int x4)] [])
      refine own_go (fun _ => XS.iload X.here hx rfl (hb hby d2_23) rfl) ?_
      show own_WP p e below _ T (mkF m 25 #[.val (.ref o0), .val (.int x1), .val (.int x2), .val (.int x3), .val (.int x4)] [(.int x4)])
      obtain rfl := Option.some.inj hv
      exact own_retI X C (hb hby d2_25) (by rw [e0]; exact hP _ _ _ N K rfl) (by decide) (by decide)
theorem ef2 (m : MethodId) (o0 : Nat) (x1 : Int32) (x2 : Int32) (x3 : Int32) (x4 : Int32) : entryFrame m #[(.ref o0), (.int x1), (.int x2), (.int x3), (.int x4)] 5 = (mkF m 0 #[.val (.ref o0), .val (.int x1), .val (.int x2), .val (.int x3), .val (.int x4)] []) := by first | (simp [entryFrame, mkF, argsToLocals, Value.category]; done) | rfl
theorem pd2 : parseMethodDescriptor "([BIIII)I" = some ⟨[(.array .byte), .int, .int, .int, .int], some .int⟩ := by decide +kernel
theorem pn2 : plainFor (⟨"com/example/loomcast/loomcast/SipMessageHeadEndPinLaw", "step", "([BIIII)I"⟩ : MethodName) = true := plainFor_of_name (by first | (simp [plainName, overriddenIn]; done) | decide +kernel)
theorem rm2 (l : Launch) (Z : State) (a0 : Array Value) (hw : ∀ d ∈ tables_1, d.before a0 Z = true) (n0 : Nat) (h0 : Heap) (Z0 : n0 ≤ h0.size) {o0 : Nat} {vs : List Int32}  (g_o0 : n0 ≤ o0) (V_o0 : own_AI Z h0 o0 .byte vs) (x1 : Int32) (x2 : Int32) (x3 : Int32) (x4 : Int32)  (rr : Int32) (hf : f2_0 vs x1 x2 x3 x4 = some rr) :
    own_Met l Z (⟨"com/example/loomcast/loomcast/SipMessageHeadEndPinLaw", "step", "([BIIII)I"⟩ : MethodName) method_4_code 5 (some .int) [] rmR2 #[(.ref o0), (.int x1), (.int x2), (.int x3), (.int x4)] h0 (fun v h L => Fr n0 L ∧ Keep h0 h [] ∧ E2 Z h0 o0 vs rr v h) := by
  refine own_body pn2 ?_
  intro p e s m below meth c s₁ C X e0
  exact own_cast (ef2 m o0 x1 x2 x3 x4) (b2_0 hw C Z0 rr (fun v h L a b c => ⟨a, b, c⟩) X e0 (Fr.nil n0) (Keep.refl h0 []) g_o0 V_o0 x1 x2 x3 x4 hf)
theorem d4_0 : decode prog_49_method_2_code 0 = .ok (.iload_n 1, 1) := by decide +kernel
theorem d4_1 : decode prog_49_method_2_code 1 = .ok (.istore_n 3, 1) := by decide +kernel
theorem d4_2 : decode prog_49_method_2_code 2 = .ok (.iload_n 1, 1) := by decide +kernel
theorem d4_3 : decode prog_49_method_2_code 3 = .ok (.istore 4, 2) := by decide +kernel
theorem d4_5 : decode prog_49_method_2_code 5 = .ok (.iload 4, 2) := by decide +kernel
theorem d4_7 : decode prog_49_method_2_code 7 = .ok (.iload_n 1, 1) := by decide +kernel
theorem d4_8 : decode prog_49_method_2_code 8 = .ok (.iload_n 2, 1) := by decide +kernel
theorem d4_9 : decode prog_49_method_2_code 9 = .ok (.iadd, 1) := by decide +kernel
theorem d4_10 : decode prog_49_method_2_code 10 = .ok (.if_icmp .ge 67, 3) := by decide +kernel
theorem d4_13 : decode prog_49_method_2_code 13 = .ok (.aload_n 0, 1) := by decide +kernel
theorem d4_14 : decode prog_49_method_2_code 14 = .ok (.iload 4, 2) := by decide +kernel
theorem d4_16 : decode prog_49_method_2_code 16 = .ok (.baload, 1) := by decide +kernel
theorem d4_17 : decode prog_49_method_2_code 17 = .ok (.bipush 10, 2) := by decide +kernel
theorem d4_19 : decode prog_49_method_2_code 19 = .ok (.if_icmp .ne 52, 3) := by decide +kernel
theorem d4_22 : decode prog_49_method_2_code 22 = .ok (.iload 4, 2) := by decide +kernel
theorem d4_24 : decode prog_49_method_2_code 24 = .ok (.iload_n 3, 1) := by decide +kernel
theorem d4_25 : decode prog_49_method_2_code 25 = .ok (.if_icmp .eq 19, 3) := by decide +kernel
theorem d4_28 : decode prog_49_method_2_code 28 = .ok (.iload 4, 2) := by decide +kernel
theorem d4_30 : decode prog_49_method_2_code 30 = .ok (.iload_n 3, 1) := by decide +kernel
theorem d4_31 : decode prog_49_method_2_code 31 = .ok (.iconst 1, 1) := by decide +kernel
theorem d4_32 : decode prog_49_method_2_code 32 = .ok (.iadd, 1) := by decide +kernel
theorem d4_33 : decode prog_49_method_2_code 33 = .ok (.if_icmp .ne 15, 3) := by decide +kernel
theorem d4_36 : decode prog_49_method_2_code 36 = .ok (.aload_n 0, 1) := by decide +kernel
theorem d4_37 : decode prog_49_method_2_code 37 = .ok (.iload_n 3, 1) := by decide +kernel
theorem d4_38 : decode prog_49_method_2_code 38 = .ok (.baload, 1) := by decide +kernel
theorem d4_39 : decode prog_49_method_2_code 39 = .ok (.bipush 13, 2) := by decide +kernel
theorem d4_41 : decode prog_49_method_2_code 41 = .ok (.if_icmp .ne 7, 3) := by decide +kernel
theorem d4_44 : decode prog_49_method_2_code 44 = .ok (.iconst 1, 1) := by decide +kernel
theorem d4_45 : decode prog_49_method_2_code 45 = .ok (.goto 4, 3) := by decide +kernel
theorem d4_48 : decode prog_49_method_2_code 48 = .ok (.iconst 0, 1) := by decide +kernel
theorem d4_49 : decode prog_49_method_2_code 49 = .ok (.istore 5, 2) := by decide +kernel
theorem d4_51 : decode prog_49_method_2_code 51 = .ok (.iload 5, 2) := by decide +kernel
theorem d4_53 : decode prog_49_method_2_code 53 = .ok (.ifCond .eq 13, 3) := by decide +kernel
theorem d4_56 : decode prog_49_method_2_code 56 = .ok (.iload_n 3, 1) := by decide +kernel
theorem d4_57 : decode prog_49_method_2_code 57 = .ok (.iload_n 1, 1) := by decide +kernel
theorem d4_58 : decode prog_49_method_2_code 58 = .ok (.if_icmp .le 8, 3) := by decide +kernel
theorem d4_61 : decode prog_49_method_2_code 61 = .ok (.iload 4, 2) := by decide +kernel
theorem d4_63 : decode prog_49_method_2_code 63 = .ok (.iconst 1, 1) := by decide +kernel
theorem d4_64 : decode prog_49_method_2_code 64 = .ok (.iadd, 1) := by decide +kernel
theorem d4_65 : decode prog_49_method_2_code 65 = .ok (.ireturn, 1) := by decide +kernel
theorem d4_66 : decode prog_49_method_2_code 66 = .ok (.iload 4, 2) := by decide +kernel
theorem d4_68 : decode prog_49_method_2_code 68 = .ok (.iconst 1, 1) := by decide +kernel
theorem d4_69 : decode prog_49_method_2_code 69 = .ok (.iadd, 1) := by decide +kernel
theorem d4_70 : decode prog_49_method_2_code 70 = .ok (.istore_n 3, 1) := by decide +kernel
theorem d4_71 : decode prog_49_method_2_code 71 = .ok (.iinc 4 1, 3) := by decide +kernel
theorem d4_74 : decode prog_49_method_2_code 74 = .ok (.goto (-69), 3) := by decide +kernel
theorem d4_77 : decode prog_49_method_2_code 77 = .ok (.iconst (-1), 1) := by decide +kernel
theorem d4_78 : decode prog_49_method_2_code 78 = .ok (.ireturn, 1) := by decide +kernel
def rmR4 : Room := { frames := 0, cells := 0, slots := 0, locals := 0 }
def E4 (Z : State) (h0 : Heap) (o0 : Nat) (vs : List Int32) (rr : Int32) (v : Option Value) (h : Heap) : Prop := v = some (.int rr)
def f4_5 : Nat → (List Int32) → Int32 → Int32 → Int32 → Int32 → Option (Int32)
  | 0 => fun _ _ _ _ _ => none
  | k + 1 => fun vs x1 x2 x3 x4 => (if x4 < (x1 + x2) then ((own_get vs x4).bind fun w1 => (if w1 = (10 : Int32) then (if x4 = x3 then (if x1 < x3 then (some (x4 + (1 : Int32))) else (f4_5 k vs x1 x2 (x4 + (1 : Int32)) (x4 + (1 : Int32)))) else (if x4 = (x3 + (1 : Int32)) then ((own_get vs x3).bind fun w2 => (if w2 = (13 : Int32) then (if x1 < x3 then (some (x4 + (1 : Int32))) else (f4_5 k vs x1 x2 (x4 + (1 : Int32)) (x4 + (1 : Int32)))) else (f4_5 k vs x1 x2 (x4 + (1 : Int32)) (x4 + (1 : Int32))))) else (f4_5 k vs x1 x2 (x4 + (1 : Int32)) (x4 + (1 : Int32))))) else (f4_5 k vs x1 x2 x3 (x4 + (1 : Int32))))) else (some (-1 : Int32)))
set_option maxRecDepth 65536 in
set_option maxHeartbeats 40000000 in
theorem b4_5 {p : Program} {l : Launch} {e : Env} {s : State} {m : MethodId} {args : Array Value} {below : List Frame} {meth : Method} {c : Code} {Z : State} {a0 : Array Value} {h0 : Heap} {n0 : Nat} {P : Option Value → Heap → List Loc → Prop} (hw : ∀ d ∈ tables_1, d.before a0 Z = true) (C : own_Ctx p s m meth c Z (⟨"com/example/loomcast/loomcast/SipMessage", "headEnd", "([BII)I"⟩ : MethodName) prog_49_method_2_code 6 (some .int)) (Z0 : n0 ≤ h0.size) {o0 : Nat} {vs : List Int32} (rr : Int32) (hP : ∀ v h L, Fr n0 L → Keep h0 h [] → E4 Z h0 o0 vs rr v h → P v h L) (k : Nat) : ∀ {T : State} {locs : List Loc} {h : Heap} (X : Stand p l e rmR4 s m args below meth c T locs 0 0) (e0 : T.heap = h) (N : Fr n0 locs) (K : Keep h0 h []) (g_o0 : n0 ≤ o0) (V_o0 : own_AI Z h o0 .byte vs) (x1 : Int32) (x2 : Int32) (x3 : Int32) (x4 : Int32) (s5 : Slot) (hs5 : One s5) (hv : f4_5 k vs x1 x2 x3 x4 = some rr),
    own_WP p e below (own_Q s P rmR4.cells rmR4.slots) T (mkF m 5 #[.val (.ref o0), .val (.int x1), .val (.int x2), .val (.int x3), .val (.int x4), s5] []) := by
  obtain ⟨hx, hZ, hby, hml, hown, hnm, hret, hlk⟩ := id C
  replace hown : s.vm.findClass "com/example/loomcast/loomcast/SipMessage" = some m.cls := hown
  induction k with
  | zero => intros; rename_i hv; cases hv
  | succ k ih =>
    intro T locs h X e0 N K g_o0 V_o0 x1 x2 x3 x4 s5 hs5 hv
    unfold f4_5 at hv
    show own_WP p e below _ T (mkF m 5 #[.val (.ref o0), .val (.int x1), .val (.int x2), .val (.int x3), .val (.int x4), s5] [])
    refine own_go (fun _ => XS.iload X.here hx rfl (hb hby d4_5) rfl) ?_
    show own_WP p e below _ T (mkF m 7 #[.val (.ref o0), .val (.int x1), .val (.int x2), .val (.int x3), .val (.int x4), s5] [(.int x4)])
    refine own_go (fun _ => XS.iloadN X.here hx rfl (hb hby d4_7) rfl) ?_
    show own_WP p e below _ T (mkF m 8 #[.val (.ref o0), .val (.int x1), .val (.int x2), .val (.int x3), .val (.int x4), s5] [(.int x1), (.int x4)])
    refine own_go (fun _ => XS.iloadN X.here hx rfl (hb hby d4_8) rfl) ?_
    show own_WP p e below _ T (mkF m 9 #[.val (.ref o0), .val (.int x1), .val (.int x2), .val (.int x3), .val (.int x4), s5] [(.int x2), (.int x1), (.int x4)])
    refine own_go (fun _ => XS.iadd X.here hx rfl (hb hby d4_9) rfl) ?_
    show own_WP p e below _ T (mkF m 10 #[.val (.ref o0), .val (.int x1), .val (.int x2), .val (.int x3), .val (.int x4), s5] [(.int (x1 + x2)), (.int x4)])
    by_cases h10 : x4 < (x1 + x2)
    · replace hv := (if_pos h10).symm.trans hv
      refine own_go (fun _ => XS.icmpNo X.here hx rfl (hb hby d4_10) rfl (XT.ii_ge_f h10)) ?_
      show own_WP p e below _ T (mkF m 13 #[.val (.ref o0), .val (.int x1), .val (.int x2), .val (.int x3), .val (.int x4), s5] [])
      refine own_go (fun _ => XS.aloadN X.here hx rfl (hb hby d4_13) rfl rfl) ?_
      show own_WP p e below _ T (mkF m 14 #[.val (.ref o0), .val (.int x1), .val (.int x2), .val (.int x3), .val (.int x4), s5] [(.ref o0)])
      refine own_go (fun _ => XS.iload X.here hx rfl (hb hby d4_14) rfl) ?_
      show own_WP p e below _ T (mkF m 16 #[.val (.ref o0), .val (.int x1), .val (.int x2), .val (.int x3), .val (.int x4), s5] [(.int x4), (.ref o0)])
      obtain ⟨w1, hg1, hv⟩ := own_bind hv
      refine own_go (own_baload X C e0 V_o0 hg1 (hb hby d4_16)) ?_
      show own_WP p e below _ T (mkF m 17 #[.val (.ref o0), .val (.int x1), .val (.int x2), .val (.int x3), .val (.int x4), s5] [(.int w1)])
      refine own_go (fun _ => XS.bipush X.here hx rfl (hb hby d4_17)) ?_
      show own_WP p e below _ T (mkF m 19 #[.val (.ref o0), .val (.int x1), .val (.int x2), .val (.int x3), .val (.int x4), s5] [(.int (10 : Int32)), (.int w1)])
      by_cases h19 : w1 = (10 : Int32)
      · replace hv := (if_pos h19).symm.trans hv
        refine own_go (fun _ => XS.icmpNo X.here hx rfl (hb hby d4_19) rfl (XT.ii_ne_f h19)) ?_
        show own_WP p e below _ T (mkF m 22 #[.val (.ref o0), .val (.int x1), .val (.int x2), .val (.int x3), .val (.int x4), s5] [])
        refine own_go (fun _ => XS.iload X.here hx rfl (hb hby d4_22) rfl) ?_
        show own_WP p e below _ T (mkF m 24 #[.val (.ref o0), .val (.int x1), .val (.int x2), .val (.int x3), .val (.int x4), s5] [(.int x4)])
        refine own_go (fun _ => XS.iloadN X.here hx rfl (hb hby d4_24) rfl) ?_
        show own_WP p e below _ T (mkF m 25 #[.val (.ref o0), .val (.int x1), .val (.int x2), .val (.int x3), .val (.int x4), s5] [(.int x3), (.int x4)])
        by_cases h25 : x4 = x3
        · replace hv := (if_pos h25).symm.trans hv
          refine own_go (fun _ => XS.icmpYes X.here hx rfl (pc0 := 25) (pc' := 44) rfl (hb hby d4_25) rfl (XT.ii_eq_t h25) (by decide) (by decide)) ?_
          show own_WP p e below _ T (mkF m 44 #[.val (.ref o0), .val (.int x1), .val (.int x2), .val (.int x3), .val (.int x4), s5] [])
          refine own_go (fun _ => XS.iconst X.here hx rfl (hb hby d4_44)) ?_
          show own_WP p e below _ T (mkF m 45 #[.val (.ref o0), .val (.int x1), .val (.int x2), .val (.int x3), .val (.int x4), s5] [(.int (1 : Int32))])
          refine own_go (fun _ => XS.goto X.here hx rfl (pc0 := 45) (pc' := 49) rfl (hb hby d4_45) (by decide) (by decide)) ?_
          show own_WP p e below _ T (mkF m 49 #[.val (.ref o0), .val (.int x1), .val (.int x2), .val (.int x3), .val (.int x4), s5] [(.int (1 : Int32))])
          refine own_go (fun _ => XS.istore X.here hx rfl (hb hby d4_49) rfl (l' := #[.val (.ref o0), .val (.int x1), .val (.int x2), .val (.int x3), .val (.int x4), .val (.int (1 : Int32))]) (XS.store1 (o := s5) rfl hs5 rfl)) ?_
          show own_WP p e below _ T (mkF m 51 #[.val (.ref o0), .val (.int x1), .val (.int x2), .val (.int x3), .val (.int x4), .val (.int (1 : Int32))] [])
          refine own_go (fun _ => XS.iload X.here hx rfl (hb hby d4_51) rfl) ?_
          show own_WP p e below _ T (mkF m 53 #[.val (.ref o0), .val (.int x1), .val (.int x2), .val (.int x3), .val (.int x4), .val (.int (1 : Int32))] [(.int (1 : Int32))])
          refine own_go (fun _ => XS.ifNo X.here hx rfl (hb hby d4_53) rfl (XT.i0_eq_f (by decide : ¬ ((1 : Int32) = (0 : Int32))))) ?_
          show own_WP p e below _ T (mkF m 56 #[.val (.ref o0), .val (.int x1), .val (.int x2), .val (.int x3), .val (.int x4), .val (.int (1 : Int32))] [])
          refine own_go (fun _ => XS.iloadN X.here hx rfl (hb hby d4_56) rfl) ?_
          show own_WP p e below _ T (mkF m 57 #[.val (.ref o0), .val (.int x1), .val (.int x2), .val (.int x3), .val (.int x4), .val (.int (1 : Int32))] [(.int x3)])
          refine own_go (fun _ => XS.iloadN X.here hx rfl (hb hby d4_57) rfl) ?_
          show own_WP p e below _ T (mkF m 58 #[.val (.ref o0), .val (.int x1), .val (.int x2), .val (.int x3), .val (.int x4), .val (.int (1 : Int32))] [(.int x1), (.int x3)])
          by_cases h58 : x1 < x3
          · replace hv := (if_pos h58).symm.trans hv
            refine own_go (fun _ => XS.icmpNo X.here hx rfl (hb hby d4_58) rfl (XT.ii_le_f h58)) ?_
            show own_WP p e below _ T (mkF m 61 #[.val (.ref o0), .val (.int x1), .val (.int x2), .val (.int x3), .val (.int x4), .val (.int (1 : Int32))] [])
            refine own_go (fun _ => XS.iload X.here hx rfl (hb hby d4_61) rfl) ?_
            show own_WP p e below _ T (mkF m 63 #[.val (.ref o0), .val (.int x1), .val (.int x2), .val (.int x3), .val (.int x4), .val (.int (1 : Int32))] [(.int x4)])
            refine own_go (fun _ => XS.iconst X.here hx rfl (hb hby d4_63)) ?_
            show own_WP p e below _ T (mkF m 64 #[.val (.ref o0), .val (.int x1), .val (.int x2), .val (.int x3), .val (.int x4), .val (.int (1 : Int32))] [(.int (1 : Int32)), (.int x4)])
            refine own_go (fun _ => XS.iadd X.here hx rfl (hb hby d4_64) rfl) ?_
            show own_WP p e below _ T (mkF m 65 #[.val (.ref o0), .val (.int x1), .val (.int x2), .val (.int x3), .val (.int x4), .val (.int (1 : Int32))] [(.int (x4 + (1 : Int32)))])
            obtain rfl := Option.some.inj hv
            exact own_retI X C (hb hby d4_65) (by rw [e0]; exact hP _ _ _ N K rfl) (by decide) (by decide)
          · replace hv := (if_neg h58).symm.trans hv
            refine own_go (fun _ => XS.icmpYes X.here hx rfl (pc0 := 58) (pc' := 66) rfl (hb hby d4_58) rfl (XT.ii_le_t h58) (by decide) (by decide)) ?_
            show own_WP p e below _ T (mkF m 66 #[.val (.ref o0), .val (.int x1), .val (.int x2), .val (.int x3), .val (.int x4), .val (.int (1 : Int32))] [])
            refine own_go (fun _ => XS.iload X.here hx rfl (hb hby d4_66) rfl) ?_
            show own_WP p e below _ T (mkF m 68 #[.val (.ref o0), .val (.int x1), .val (.int x2), .val (.int x3), .val (.int x4), .val (.int (1 : Int32))] [(.int x4)])
            refine own_go (fun _ => XS.iconst X.here hx rfl (hb hby d4_68)) ?_
            show own_WP p e below _ T (mkF m 69 #[.val (.ref o0), .val (.int x1), .val (.int x2), .val (.int x3), .val (.int x4), .val (.int (1 : Int32))] [(.int (1 : Int32)), (.int x4)])
            refine own_go (fun _ => XS.iadd X.here hx rfl (hb hby d4_69) rfl) ?_
            show own_WP p e below _ T (mkF m 70 #[.val (.ref o0), .val (.int x1), .val (.int x2), .val (.int x3), .val (.int x4), .val (.int (1 : Int32))] [(.int (x4 + (1 : Int32)))])
            refine own_go (fun _ => XS.istoreN X.here hx rfl (hb hby d4_70) rfl (l' := #[.val (.ref o0), .val (.int x1), .val (.int x2), .val (.int (x4 + (1 : Int32))), .val (.int x4), .val (.int (1 : Int32))]) rfl) ?_
            show own_WP p e below _ T (mkF m 71 #[.val (.ref o0), .val (.int x1), .val (.int x2), .val (.int (x4 + (1 : Int32))), .val (.int x4), .val (.int (1 : Int32))] [])
            refine own_go (fun _ => XS.iinc X.here hx rfl (hb hby d4_71) rfl (l' := #[.val (.ref o0), .val (.int x1), .val (.int x2), .val (.int (x4 + (1 : Int32))), .val (.int (x4 + (1 : Int32))), .val (.int (1 : Int32))]) rfl) ?_
            show own_WP p e below _ T (mkF m 74 #[.val (.ref o0), .val (.int x1), .val (.int x2), .val (.int (x4 + (1 : Int32))), .val (.int (x4 + (1 : Int32))), .val (.int (1 : Int32))] [])
            refine own_go (fun _ => XS.goto X.here hx rfl (pc0 := 74) (pc' := 5) rfl (hb hby d4_74) (by decide) (by decide)) ?_
            exact ih X e0 N K g_o0 V_o0 x1 x2 (x4 + (1 : Int32)) (x4 + (1 : Int32)) (.val (.int (1 : Int32))) (One.val rfl) hv
        · replace hv := (if_neg h25).symm.trans hv
          refine own_go (fun _ => XS.icmpNo X.here hx rfl (hb hby d4_25) rfl (XT.ii_eq_f h25)) ?_
          show own_WP p e below _ T (mkF m 28 #[.val (.ref o0), .val (.int x1), .val (.int x2), .val (.int x3), .val (.int x4), s5] [])
          refine own_go (fun _ => XS.iload X.here hx rfl (hb hby d4_28) rfl) ?_
          show own_WP p e below _ T (mkF m 30 #[.val (.ref o0), .val (.int x1), .val (.int x2), .val (.int x3), .val (.int x4), s5] [(.int x4)])
          refine own_go (fun _ => XS.iloadN X.here hx rfl (hb hby d4_30) rfl) ?_
          show own_WP p e below _ T (mkF m 31 #[.val (.ref o0), .val (.int x1), .val (.int x2), .val (.int x3), .val (.int x4), s5] [(.int x3), (.int x4)])
          refine own_go (fun _ => XS.iconst X.here hx rfl (hb hby d4_31)) ?_
          show own_WP p e below _ T (mkF m 32 #[.val (.ref o0), .val (.int x1), .val (.int x2), .val (.int x3), .val (.int x4), s5] [(.int (1 : Int32)), (.int x3), (.int x4)])
          refine own_go (fun _ => XS.iadd X.here hx rfl (hb hby d4_32) rfl) ?_
          show own_WP p e below _ T (mkF m 33 #[.val (.ref o0), .val (.int x1), .val (.int x2), .val (.int x3), .val (.int x4), s5] [(.int (x3 + (1 : Int32))), (.int x4)])
          by_cases h33 : x4 = (x3 + (1 : Int32))
          · replace hv := (if_pos h33).symm.trans hv
            refine own_go (fun _ => XS.icmpNo X.here hx rfl (hb hby d4_33) rfl (XT.ii_ne_f h33)) ?_
            show own_WP p e below _ T (mkF m 36 #[.val (.ref o0), .val (.int x1), .val (.int x2), .val (.int x3), .val (.int x4), s5] [])
            refine own_go (fun _ => XS.aloadN X.here hx rfl (hb hby d4_36) rfl rfl) ?_
            show own_WP p e below _ T (mkF m 37 #[.val (.ref o0), .val (.int x1), .val (.int x2), .val (.int x3), .val (.int x4), s5] [(.ref o0)])
            refine own_go (fun _ => XS.iloadN X.here hx rfl (hb hby d4_37) rfl) ?_
            show own_WP p e below _ T (mkF m 38 #[.val (.ref o0), .val (.int x1), .val (.int x2), .val (.int x3), .val (.int x4), s5] [(.int x3), (.ref o0)])
            obtain ⟨w2, hg2, hv⟩ := own_bind hv
            refine own_go (own_baload X C e0 V_o0 hg2 (hb hby d4_38)) ?_
            show own_WP p e below _ T (mkF m 39 #[.val (.ref o0), .val (.int x1), .val (.int x2), .val (.int x3), .val (.int x4), s5] [(.int w2)])
            refine own_go (fun _ => XS.bipush X.here hx rfl (hb hby d4_39)) ?_
            show own_WP p e below _ T (mkF m 41 #[.val (.ref o0), .val (.int x1), .val (.int x2), .val (.int x3), .val (.int x4), s5] [(.int (13 : Int32)), (.int w2)])
            by_cases h41 : w2 = (13 : Int32)
            · replace hv := (if_pos h41).symm.trans hv
              refine own_go (fun _ => XS.icmpNo X.here hx rfl (hb hby d4_41) rfl (XT.ii_ne_f h41)) ?_
              show own_WP p e below _ T (mkF m 44 #[.val (.ref o0), .val (.int x1), .val (.int x2), .val (.int x3), .val (.int x4), s5] [])
              refine own_go (fun _ => XS.iconst X.here hx rfl (hb hby d4_44)) ?_
              show own_WP p e below _ T (mkF m 45 #[.val (.ref o0), .val (.int x1), .val (.int x2), .val (.int x3), .val (.int x4), s5] [(.int (1 : Int32))])
              refine own_go (fun _ => XS.goto X.here hx rfl (pc0 := 45) (pc' := 49) rfl (hb hby d4_45) (by decide) (by decide)) ?_
              show own_WP p e below _ T (mkF m 49 #[.val (.ref o0), .val (.int x1), .val (.int x2), .val (.int x3), .val (.int x4), s5] [(.int (1 : Int32))])
              refine own_go (fun _ => XS.istore X.here hx rfl (hb hby d4_49) rfl (l' := #[.val (.ref o0), .val (.int x1), .val (.int x2), .val (.int x3), .val (.int x4), .val (.int (1 : Int32))]) (XS.store1 (o := s5) rfl hs5 rfl)) ?_
              show own_WP p e below _ T (mkF m 51 #[.val (.ref o0), .val (.int x1), .val (.int x2), .val (.int x3), .val (.int x4), .val (.int (1 : Int32))] [])
              refine own_go (fun _ => XS.iload X.here hx rfl (hb hby d4_51) rfl) ?_
              show own_WP p e below _ T (mkF m 53 #[.val (.ref o0), .val (.int x1), .val (.int x2), .val (.int x3), .val (.int x4), .val (.int (1 : Int32))] [(.int (1 : Int32))])
              refine own_go (fun _ => XS.ifNo X.here hx rfl (hb hby d4_53) rfl (XT.i0_eq_f (by decide : ¬ ((1 : Int32) = (0 : Int32))))) ?_
              show own_WP p e below _ T (mkF m 56 #[.val (.ref o0), .val (.int x1), .val (.int x2), .val (.int x3), .val (.int x4), .val (.int (1 : Int32))] [])
              refine own_go (fun _ => XS.iloadN X.here hx rfl (hb hby d4_56) rfl) ?_
              show own_WP p e below _ T (mkF m 57 #[.val (.ref o0), .val (.int x1), .val (.int x2), .val (.int x3), .val (.int x4), .val (.int (1 : Int32))] [(.int x3)])
              refine own_go (fun _ => XS.iloadN X.here hx rfl (hb hby d4_57) rfl) ?_
              show own_WP p e below _ T (mkF m 58 #[.val (.ref o0), .val (.int x1), .val (.int x2), .val (.int x3), .val (.int x4), .val (.int (1 : Int32))] [(.int x1), (.int x3)])
              by_cases h58 : x1 < x3
              · replace hv := (if_pos h58).symm.trans hv
                refine own_go (fun _ => XS.icmpNo X.here hx rfl (hb hby d4_58) rfl (XT.ii_le_f h58)) ?_
                show own_WP p e below _ T (mkF m 61 #[.val (.ref o0), .val (.int x1), .val (.int x2), .val (.int x3), .val (.int x4), .val (.int (1 : Int32))] [])
                refine own_go (fun _ => XS.iload X.here hx rfl (hb hby d4_61) rfl) ?_
                show own_WP p e below _ T (mkF m 63 #[.val (.ref o0), .val (.int x1), .val (.int x2), .val (.int x3), .val (.int x4), .val (.int (1 : Int32))] [(.int x4)])
                refine own_go (fun _ => XS.iconst X.here hx rfl (hb hby d4_63)) ?_
                show own_WP p e below _ T (mkF m 64 #[.val (.ref o0), .val (.int x1), .val (.int x2), .val (.int x3), .val (.int x4), .val (.int (1 : Int32))] [(.int (1 : Int32)), (.int x4)])
                refine own_go (fun _ => XS.iadd X.here hx rfl (hb hby d4_64) rfl) ?_
                show own_WP p e below _ T (mkF m 65 #[.val (.ref o0), .val (.int x1), .val (.int x2), .val (.int x3), .val (.int x4), .val (.int (1 : Int32))] [(.int (x4 + (1 : Int32)))])
                obtain rfl := Option.some.inj hv
                exact own_retI X C (hb hby d4_65) (by rw [e0]; exact hP _ _ _ N K rfl) (by decide) (by decide)
              · replace hv := (if_neg h58).symm.trans hv
                refine own_go (fun _ => XS.icmpYes X.here hx rfl (pc0 := 58) (pc' := 66) rfl (hb hby d4_58) rfl (XT.ii_le_t h58) (by decide) (by decide)) ?_
                show own_WP p e below _ T (mkF m 66 #[.val (.ref o0), .val (.int x1), .val (.int x2), .val (.int x3), .val (.int x4), .val (.int (1 : Int32))] [])
                refine own_go (fun _ => XS.iload X.here hx rfl (hb hby d4_66) rfl) ?_
                show own_WP p e below _ T (mkF m 68 #[.val (.ref o0), .val (.int x1), .val (.int x2), .val (.int x3), .val (.int x4), .val (.int (1 : Int32))] [(.int x4)])
                refine own_go (fun _ => XS.iconst X.here hx rfl (hb hby d4_68)) ?_
                show own_WP p e below _ T (mkF m 69 #[.val (.ref o0), .val (.int x1), .val (.int x2), .val (.int x3), .val (.int x4), .val (.int (1 : Int32))] [(.int (1 : Int32)), (.int x4)])
                refine own_go (fun _ => XS.iadd X.here hx rfl (hb hby d4_69) rfl) ?_
                show own_WP p e below _ T (mkF m 70 #[.val (.ref o0), .val (.int x1), .val (.int x2), .val (.int x3), .val (.int x4), .val (.int (1 : Int32))] [(.int (x4 + (1 : Int32)))])
                refine own_go (fun _ => XS.istoreN X.here hx rfl (hb hby d4_70) rfl (l' := #[.val (.ref o0), .val (.int x1), .val (.int x2), .val (.int (x4 + (1 : Int32))), .val (.int x4), .val (.int (1 : Int32))]) rfl) ?_
                show own_WP p e below _ T (mkF m 71 #[.val (.ref o0), .val (.int x1), .val (.int x2), .val (.int (x4 + (1 : Int32))), .val (.int x4), .val (.int (1 : Int32))] [])
                refine own_go (fun _ => XS.iinc X.here hx rfl (hb hby d4_71) rfl (l' := #[.val (.ref o0), .val (.int x1), .val (.int x2), .val (.int (x4 + (1 : Int32))), .val (.int (x4 + (1 : Int32))), .val (.int (1 : Int32))]) rfl) ?_
                show own_WP p e below _ T (mkF m 74 #[.val (.ref o0), .val (.int x1), .val (.int x2), .val (.int (x4 + (1 : Int32))), .val (.int (x4 + (1 : Int32))), .val (.int (1 : Int32))] [])
                refine own_go (fun _ => XS.goto X.here hx rfl (pc0 := 74) (pc' := 5) rfl (hb hby d4_74) (by decide) (by decide)) ?_
                exact ih X e0 N K g_o0 V_o0 x1 x2 (x4 + (1 : Int32)) (x4 + (1 : Int32)) (.val (.int (1 : Int32))) (One.val rfl) hv
            · replace hv := (if_neg h41).symm.trans hv
              refine own_go (fun _ => XS.icmpYes X.here hx rfl (pc0 := 41) (pc' := 48) rfl (hb hby d4_41) rfl (XT.ii_ne_t h41) (by decide) (by decide)) ?_
              show own_WP p e below _ T (mkF m 48 #[.val (.ref o0), .val (.int x1), .val (.int x2), .val (.int x3), .val (.int x4), s5] [])
              refine own_go (fun _ => XS.iconst X.here hx rfl (hb hby d4_48)) ?_
              show own_WP p e below _ T (mkF m 49 #[.val (.ref o0), .val (.int x1), .val (.int x2), .val (.int x3), .val (.int x4), s5] [(.int (0 : Int32))])
              refine own_go (fun _ => XS.istore X.here hx rfl (hb hby d4_49) rfl (l' := #[.val (.ref o0), .val (.int x1), .val (.int x2), .val (.int x3), .val (.int x4), .val (.int (0 : Int32))]) (XS.store1 (o := s5) rfl hs5 rfl)) ?_
              show own_WP p e below _ T (mkF m 51 #[.val (.ref o0), .val (.int x1), .val (.int x2), .val (.int x3), .val (.int x4), .val (.int (0 : Int32))] [])
              refine own_go (fun _ => XS.iload X.here hx rfl (hb hby d4_51) rfl) ?_
              show own_WP p e below _ T (mkF m 53 #[.val (.ref o0), .val (.int x1), .val (.int x2), .val (.int x3), .val (.int x4), .val (.int (0 : Int32))] [(.int (0 : Int32))])
              refine own_go (fun _ => XS.ifYes X.here hx rfl (pc0 := 53) (pc' := 66) rfl (hb hby d4_53) rfl (XT.i0_eq_t (by decide : (0 : Int32) = (0 : Int32))) (by decide) (by decide)) ?_
              show own_WP p e below _ T (mkF m 66 #[.val (.ref o0), .val (.int x1), .val (.int x2), .val (.int x3), .val (.int x4), .val (.int (0 : Int32))] [])
              refine own_go (fun _ => XS.iload X.here hx rfl (hb hby d4_66) rfl) ?_
              show own_WP p e below _ T (mkF m 68 #[.val (.ref o0), .val (.int x1), .val (.int x2), .val (.int x3), .val (.int x4), .val (.int (0 : Int32))] [(.int x4)])
              refine own_go (fun _ => XS.iconst X.here hx rfl (hb hby d4_68)) ?_
              show own_WP p e below _ T (mkF m 69 #[.val (.ref o0), .val (.int x1), .val (.int x2), .val (.int x3), .val (.int x4), .val (.int (0 : Int32))] [(.int (1 : Int32)), (.int x4)])
              refine own_go (fun _ => XS.iadd X.here hx rfl (hb hby d4_69) rfl) ?_
              show own_WP p e below _ T (mkF m 70 #[.val (.ref o0), .val (.int x1), .val (.int x2), .val (.int x3), .val (.int x4), .val (.int (0 : Int32))] [(.int (x4 + (1 : Int32)))])
              refine own_go (fun _ => XS.istoreN X.here hx rfl (hb hby d4_70) rfl (l' := #[.val (.ref o0), .val (.int x1), .val (.int x2), .val (.int (x4 + (1 : Int32))), .val (.int x4), .val (.int (0 : Int32))]) rfl) ?_
              show own_WP p e below _ T (mkF m 71 #[.val (.ref o0), .val (.int x1), .val (.int x2), .val (.int (x4 + (1 : Int32))), .val (.int x4), .val (.int (0 : Int32))] [])
              refine own_go (fun _ => XS.iinc X.here hx rfl (hb hby d4_71) rfl (l' := #[.val (.ref o0), .val (.int x1), .val (.int x2), .val (.int (x4 + (1 : Int32))), .val (.int (x4 + (1 : Int32))), .val (.int (0 : Int32))]) rfl) ?_
              show own_WP p e below _ T (mkF m 74 #[.val (.ref o0), .val (.int x1), .val (.int x2), .val (.int (x4 + (1 : Int32))), .val (.int (x4 + (1 : Int32))), .val (.int (0 : Int32))] [])
              refine own_go (fun _ => XS.goto X.here hx rfl (pc0 := 74) (pc' := 5) rfl (hb hby d4_74) (by decide) (by decide)) ?_
              exact ih X e0 N K g_o0 V_o0 x1 x2 (x4 + (1 : Int32)) (x4 + (1 : Int32)) (.val (.int (0 : Int32))) (One.val rfl) hv
          · replace hv := (if_neg h33).symm.trans hv
            refine own_go (fun _ => XS.icmpYes X.here hx rfl (pc0 := 33) (pc' := 48) rfl (hb hby d4_33) rfl (XT.ii_ne_t h33) (by decide) (by decide)) ?_
            show own_WP p e below _ T (mkF m 48 #[.val (.ref o0), .val (.int x1), .val (.int x2), .val (.int x3), .val (.int x4), s5] [])
            refine own_go (fun _ => XS.iconst X.here hx rfl (hb hby d4_48)) ?_
            show own_WP p e below _ T (mkF m 49 #[.val (.ref o0), .val (.int x1), .val (.int x2), .val (.int x3), .val (.int x4), s5] [(.int (0 : Int32))])
            refine own_go (fun _ => XS.istore X.here hx rfl (hb hby d4_49) rfl (l' := #[.val (.ref o0), .val (.int x1), .val (.int x2), .val (.int x3), .val (.int x4), .val (.int (0 : Int32))]) (XS.store1 (o := s5) rfl hs5 rfl)) ?_
            show own_WP p e below _ T (mkF m 51 #[.val (.ref o0), .val (.int x1), .val (.int x2), .val (.int x3), .val (.int x4), .val (.int (0 : Int32))] [])
            refine own_go (fun _ => XS.iload X.here hx rfl (hb hby d4_51) rfl) ?_
            show own_WP p e below _ T (mkF m 53 #[.val (.ref o0), .val (.int x1), .val (.int x2), .val (.int x3), .val (.int x4), .val (.int (0 : Int32))] [(.int (0 : Int32))])
            refine own_go (fun _ => XS.ifYes X.here hx rfl (pc0 := 53) (pc' := 66) rfl (hb hby d4_53) rfl (XT.i0_eq_t (by decide : (0 : Int32) = (0 : Int32))) (by decide) (by decide)) ?_
            show own_WP p e below _ T (mkF m 66 #[.val (.ref o0), .val (.int x1), .val (.int x2), .val (.int x3), .val (.int x4), .val (.int (0 : Int32))] [])
            refine own_go (fun _ => XS.iload X.here hx rfl (hb hby d4_66) rfl) ?_
            show own_WP p e below _ T (mkF m 68 #[.val (.ref o0), .val (.int x1), .val (.int x2), .val (.int x3), .val (.int x4), .val (.int (0 : Int32))] [(.int x4)])
            refine own_go (fun _ => XS.iconst X.here hx rfl (hb hby d4_68)) ?_
            show own_WP p e below _ T (mkF m 69 #[.val (.ref o0), .val (.int x1), .val (.int x2), .val (.int x3), .val (.int x4), .val (.int (0 : Int32))] [(.int (1 : Int32)), (.int x4)])
            refine own_go (fun _ => XS.iadd X.here hx rfl (hb hby d4_69) rfl) ?_
            show own_WP p e below _ T (mkF m 70 #[.val (.ref o0), .val (.int x1), .val (.int x2), .val (.int x3), .val (.int x4), .val (.int (0 : Int32))] [(.int (x4 + (1 : Int32)))])
            refine own_go (fun _ => XS.istoreN X.here hx rfl (hb hby d4_70) rfl (l' := #[.val (.ref o0), .val (.int x1), .val (.int x2), .val (.int (x4 + (1 : Int32))), .val (.int x4), .val (.int (0 : Int32))]) rfl) ?_
            show own_WP p e below _ T (mkF m 71 #[.val (.ref o0), .val (.int x1), .val (.int x2), .val (.int (x4 + (1 : Int32))), .val (.int x4), .val (.int (0 : Int32))] [])
            refine own_go (fun _ => XS.iinc X.here hx rfl (hb hby d4_71) rfl (l' := #[.val (.ref o0), .val (.int x1), .val (.int x2), .val (.int (x4 + (1 : Int32))), .val (.int (x4 + (1 : Int32))), .val (.int (0 : Int32))]) rfl) ?_
            show own_WP p e below _ T (mkF m 74 #[.val (.ref o0), .val (.int x1), .val (.int x2), .val (.int (x4 + (1 : Int32))), .val (.int (x4 + (1 : Int32))), .val (.int (0 : Int32))] [])
            refine own_go (fun _ => XS.goto X.here hx rfl (pc0 := 74) (pc' := 5) rfl (hb hby d4_74) (by decide) (by decide)) ?_
            exact ih X e0 N K g_o0 V_o0 x1 x2 (x4 + (1 : Int32)) (x4 + (1 : Int32)) (.val (.int (0 : Int32))) (One.val rfl) hv
      · replace hv := (if_neg h19).symm.trans hv
        refine own_go (fun _ => XS.icmpYes X.here hx rfl (pc0 := 19) (pc' := 71) rfl (hb hby d4_19) rfl (XT.ii_ne_t h19) (by decide) (by decide)) ?_
        show own_WP p e below _ T (mkF m 71 #[.val (.ref o0), .val (.int x1), .val (.int x2), .val (.int x3), .val (.int x4), s5] [])
        refine own_go (fun _ => XS.iinc X.here hx rfl (hb hby d4_71) rfl (l' := #[.val (.ref o0), .val (.int x1), .val (.int x2), .val (.int x3), .val (.int (x4 + (1 : Int32))), s5]) rfl) ?_
        show own_WP p e below _ T (mkF m 74 #[.val (.ref o0), .val (.int x1), .val (.int x2), .val (.int x3), .val (.int (x4 + (1 : Int32))), s5] [])
        refine own_go (fun _ => XS.goto X.here hx rfl (pc0 := 74) (pc' := 5) rfl (hb hby d4_74) (by decide) (by decide)) ?_
        exact ih X e0 N K g_o0 V_o0 x1 x2 x3 (x4 + (1 : Int32)) s5 hs5 hv
    · replace hv := (if_neg h10).symm.trans hv
      refine own_go (fun _ => XS.icmpYes X.here hx rfl (pc0 := 10) (pc' := 77) rfl (hb hby d4_10) rfl (XT.ii_ge_t h10) (by decide) (by decide)) ?_
      show own_WP p e below _ T (mkF m 77 #[.val (.ref o0), .val (.int x1), .val (.int x2), .val (.int x3), .val (.int x4), s5] [])
      refine own_go (fun _ => XS.iconst X.here hx rfl (hb hby d4_77)) ?_
      show own_WP p e below _ T (mkF m 78 #[.val (.ref o0), .val (.int x1), .val (.int x2), .val (.int x3), .val (.int x4), s5] [(.int (-1 : Int32))])
      obtain rfl := Option.some.inj hv
      exact own_retI X C (hb hby d4_78) (by rw [e0]; exact hP _ _ _ N K rfl) (by decide) (by decide)
def f4_0 (vs : List Int32) (x1 : Int32) (x2 : Int32) : Option (Int32) := (f4_5 12 vs x1 x2 x1 x1)
set_option maxRecDepth 65536 in
set_option maxHeartbeats 40000000 in
theorem b4_0 {p : Program} {l : Launch} {e : Env} {s : State} {m : MethodId} {args : Array Value} {below : List Frame} {meth : Method} {c : Code} {Z : State} {a0 : Array Value} {h0 : Heap} {n0 : Nat} {P : Option Value → Heap → List Loc → Prop} (hw : ∀ d ∈ tables_1, d.before a0 Z = true) (C : own_Ctx p s m meth c Z (⟨"com/example/loomcast/loomcast/SipMessage", "headEnd", "([BII)I"⟩ : MethodName) prog_49_method_2_code 6 (some .int)) (Z0 : n0 ≤ h0.size) {o0 : Nat} {vs : List Int32} (rr : Int32) (hP : ∀ v h L, Fr n0 L → Keep h0 h [] → E4 Z h0 o0 vs rr v h → P v h L)
    {T : State} {locs : List Loc} {h : Heap} (X : Stand p l e rmR4 s m args below meth c T locs 0 0) (e0 : T.heap = h) (N : Fr n0 locs) (K : Keep h0 h []) (g_o0 : n0 ≤ o0) (V_o0 : own_AI Z h o0 .byte vs) (x1 : Int32) (x2 : Int32) (hv : f4_0 vs x1 x2 = some rr) :
    own_WP p e below (own_Q s P rmR4.cells rmR4.slots) T (mkF m 0 #[.val (.ref o0), .val (.int x1), .val (.int x2), .unset, .unset, .unset] []) := by
  obtain ⟨hx, hZ, hby, hml, hown, hnm, hret, hlk⟩ := id C
  replace hown : s.vm.findClass "com/example/loomcast/loomcast/SipMessage" = some m.cls := hown
  unfold f4_0 at hv
  show own_WP p e below _ T (mkF m 0 #[.val (.ref o0), .val (.int x1), .val (.int x2), .unset, .unset, .unset] [])
  refine own_go (fun _ => XS.iloadN X.here hx rfl (hb hby d4_0) rfl) ?_
  show own_WP p e below _ T (mkF m 1 #[.val (.ref o0), .val (.int x1), .val (.int x2), .unset, .unset, .unset] [(.int x1)])
  refine own_go (fun _ => XS.istoreN X.here hx rfl (hb hby d4_1) rfl (l' := #[.val (.ref o0), .val (.int x1), .val (.int x2), .val (.int x1), .unset, .unset]) rfl) ?_
  show own_WP p e below _ T (mkF m 2 #[.val (.ref o0), .val (.int x1), .val (.int x2), .val (.int x1), .unset, .unset] [])
  refine own_go (fun _ => XS.iloadN X.here hx rfl (hb hby d4_2) rfl) ?_
  show own_WP p e below _ T (mkF m 3 #[.val (.ref o0), .val (.int x1), .val (.int x2), .val (.int x1), .unset, .unset] [(.int x1)])
  refine own_go (fun _ => XS.istore X.here hx rfl (hb hby d4_3) rfl (l' := #[.val (.ref o0), .val (.int x1), .val (.int x2), .val (.int x1), .val (.int x1), .unset]) rfl) ?_
  exact b4_5 hw C Z0 rr hP 12 X e0 N K g_o0 V_o0 x1 x2 x1 x1 (.unset) One.u hv
theorem ef4 (m : MethodId) (o0 : Nat) (x1 : Int32) (x2 : Int32) : entryFrame m #[(.ref o0), (.int x1), (.int x2)] 6 = (mkF m 0 #[.val (.ref o0), .val (.int x1), .val (.int x2), .unset, .unset, .unset] []) := by first | (simp [entryFrame, mkF, argsToLocals, Value.category]; done) | rfl
theorem pd4 : parseMethodDescriptor "([BII)I" = some ⟨[(.array .byte), .int, .int], some .int⟩ := by decide +kernel
theorem pn4 : plainFor (⟨"com/example/loomcast/loomcast/SipMessage", "headEnd", "([BII)I"⟩ : MethodName) = true := plainFor_of_name (by first | (simp [plainName, overriddenIn]; done) | decide +kernel)
theorem rm4 (l : Launch) (Z : State) (a0 : Array Value) (hw : ∀ d ∈ tables_1, d.before a0 Z = true) (n0 : Nat) (h0 : Heap) (Z0 : n0 ≤ h0.size) {o0 : Nat} {vs : List Int32}  (g_o0 : n0 ≤ o0) (V_o0 : own_AI Z h0 o0 .byte vs) (x1 : Int32) (x2 : Int32)  (rr : Int32) (hf : f4_0 vs x1 x2 = some rr) :
    own_Met l Z (⟨"com/example/loomcast/loomcast/SipMessage", "headEnd", "([BII)I"⟩ : MethodName) prog_49_method_2_code 6 (some .int) [] rmR4 #[(.ref o0), (.int x1), (.int x2)] h0 (fun v h L => Fr n0 L ∧ Keep h0 h [] ∧ E4 Z h0 o0 vs rr v h) := by
  refine own_body pn4 ?_
  intro p e s m below meth c s₁ C X e0
  exact own_cast (ef4 m o0 x1 x2) (b4_0 hw C Z0 rr (fun v h L a b c => ⟨a, b, c⟩) X e0 (Fr.nil n0) (Keep.refl h0 []) g_o0 V_o0 x1 x2 hf)
def E0 (Z : State) (h0 : Heap)   (rr : Int32) (v : Option Value) (h : Heap) : Prop := v = some (.int rr)
def f0_90 (v_b2 : List Int32) (x4 : Int32) (x5 : Int32) : Option (Int32) := (if ((9 : Int32) - (x4 &&& (3 : Int32))) = (0 : Int32) then none else (own_let ((x5 &&& (2147483647 : Int32)) % ((9 : Int32) - (x4 &&& (3 : Int32)))) fun y18 => ((f2_0 v_b2 (x4 &&& (3 : Int32)) ((x4 &&& (3 : Int32)) + y18) (7 : Int32) (-1 : Int32)).bind fun rr19 => ((f2_0 v_b2 (x4 &&& (3 : Int32)) ((x4 &&& (3 : Int32)) + y18) (6 : Int32) rr19).bind fun rr20 => ((f2_0 v_b2 (x4 &&& (3 : Int32)) ((x4 &&& (3 : Int32)) + y18) (5 : Int32) rr20).bind fun rr21 => ((f2_0 v_b2 (x4 &&& (3 : Int32)) ((x4 &&& (3 : Int32)) + y18) (4 : Int32) rr21).bind fun rr22 => ((f2_0 v_b2 (x4 &&& (3 : Int32)) ((x4 &&& (3 : Int32)) + y18) (3 : Int32) rr22).bind fun rr23 => ((f2_0 v_b2 (x4 &&& (3 : Int32)) ((x4 &&& (3 : Int32)) + y18) (2 : Int32) rr23).bind fun rr24 => ((f2_0 v_b2 (x4 &&& (3 : Int32)) ((x4 &&& (3 : Int32)) + y18) (1 : Int32) rr24).bind fun rr25 => ((f2_0 v_b2 (x4 &&& (3 : Int32)) ((x4 &&& (3 : Int32)) + y18) (0 : Int32) rr25).bind fun rr26 => ((f4_0 v_b2 (x4 &&& (3 : Int32)) y18).bind fun rr27 => (if rr27 = rr26 then (some (1 : Int32)) else (some (0 : Int32))))))))))))))
set_option maxRecDepth 65536 in
set_option maxHeartbeats 40000000 in
theorem b0_90 {p : Program} {l : Launch} {e : Env} {s : State} {m : MethodId} {args : Array Value} {below : List Frame} {meth : Method} {c : Code} {Z : State} {a0 : Array Value} {h0 : Heap} {n0 : Nat} {P : Option Value → Heap → List Loc → Prop} (hw : ∀ d ∈ tables_1, d.before a0 Z = true) (C : own_Ctx p s m meth c Z x code maxLocals ret) (Z0 : n0 ≤ h0.size)   (rr : Int32) (hP : ∀ v h L, Fr n0 L → Keep h0 h [] → E0 Z h0  rr v h → P v h L)
    {T : State} {locs : List Loc} {h : Heap} {b2 : Nat} {v_b2 : List Int32} (X : Stand p l e room_1 s m args below meth c T locs 1 8) (e0 : T.heap = h) (N : Fr n0 locs) (K : Keep h0 h []) (g_b2 : n0 ≤ b2) (z_b2 : h0.size ≤ b2) (V_b2 : own_AI Z h b2 .byte v_b2) (x0 : Int64) (x2 : Int64) (x4 : Int32) (x5 : Int32) (hv : f0_90 v_b2 x4 x5 = some rr) :
    own_WP p e below (own_Q s P room_1.cells room_1.slots) T (mkF m 90 #[.val (.long x0), .second, .val (.long x2), .second, .val (.int x4), .val (.int x5), .val (.ref b2), .unset, .unset, .unset, .unset] []) := by
  obtain ⟨hx, hZ, hby, hml, hown, hnm, hret, hlk⟩ := id C
  replace hown : s.vm.findClass "com/example/loomcast/loomcast/SipMessageHeadEndPinLaw" = some m.cls := hown
  unfold f0_90 at hv
  show own_WP p e below _ T (mkF m 90 #[.val (.long x0), .second, .val (.long x2), .second, .val (.int x4), .val (.int x5), .val (.ref b2), .unset, .unset, .unset, .unset] [])
  refine own_go (fun _ => XS.iload X.here hx rfl (hb hby at_90) rfl) ?_
  show own_WP p e below _ T (mkF m 92 #[.val (.long x0), .second, .val (.long x2), .second, .val (.int x4), .val (.int x5), .val (.ref b2), .unset, .unset, .unset, .unset] [(.int x4)])
  refine own_go (fun _ => XS.iconst X.here hx rfl (hb hby at_92)) ?_
  show own_WP p e below _ T (mkF m 93 #[.val (.long x0), .second, .val (.long x2), .second, .val (.int x4), .val (.int x5), .val (.ref b2), .unset, .unset, .unset, .unset] [(.int (3 : Int32)), (.int x4)])
  refine own_go (fun _ => XS.iand X.here hx rfl (hb hby at_93) rfl) ?_
  show own_WP p e below _ T (mkF m 94 #[.val (.long x0), .second, .val (.long x2), .second, .val (.int x4), .val (.int x5), .val (.ref b2), .unset, .unset, .unset, .unset] [(.int (x4 &&& (3 : Int32)))])
  refine own_go (fun _ => XS.istore X.here hx rfl (hb hby at_94) rfl (l' := #[.val (.long x0), .second, .val (.long x2), .second, .val (.int x4), .val (.int x5), .val (.ref b2), .val (.int (x4 &&& (3 : Int32))), .unset, .unset, .unset]) rfl) ?_
  show own_WP p e below _ T (mkF m 96 #[.val (.long x0), .second, .val (.long x2), .second, .val (.int x4), .val (.int x5), .val (.ref b2), .val (.int (x4 &&& (3 : Int32))), .unset, .unset, .unset] [])
  refine own_go (fun _ => XS.iload X.here hx rfl (hb hby at_96) rfl) ?_
  show own_WP p e below _ T (mkF m 98 #[.val (.long x0), .second, .val (.long x2), .second, .val (.int x4), .val (.int x5), .val (.ref b2), .val (.int (x4 &&& (3 : Int32))), .unset, .unset, .unset] [(.int x5)])
  refine own_go (X.ldcInt hx hown (mvT hZ (hw _ (List.mem_of_getElem? (i := 6) rfl))) (g := (mkF m 98 #[.val (.long x0), .second, .val (.long x2), .second, .val (.int x4), .val (.int x5), .val (.ref b2), .val (.int (x4 &&& (3 : Int32))), .unset, .unset, .unset] [(.int x5)])) rfl (hb hby at_98)) ?_
  show own_WP p e below _ T (mkF m 100 #[.val (.long x0), .second, .val (.long x2), .second, .val (.int x4), .val (.int x5), .val (.ref b2), .val (.int (x4 &&& (3 : Int32))), .unset, .unset, .unset] [(.int (2147483647 : Int32)), (.int x5)])
  refine own_go (fun _ => XS.iand X.here hx rfl (hb hby at_100) rfl) ?_
  show own_WP p e below _ T (mkF m 101 #[.val (.long x0), .second, .val (.long x2), .second, .val (.int x4), .val (.int x5), .val (.ref b2), .val (.int (x4 &&& (3 : Int32))), .unset, .unset, .unset] [(.int (x5 &&& (2147483647 : Int32)))])
  refine own_go (fun _ => XS.bipush X.here hx rfl (hb hby at_101)) ?_
  show own_WP p e below _ T (mkF m 103 #[.val (.long x0), .second, .val (.long x2), .second, .val (.int x4), .val (.int x5), .val (.ref b2), .val (.int (x4 &&& (3 : Int32))), .unset, .unset, .unset] [(.int (9 : Int32)), (.int (x5 &&& (2147483647 : Int32)))])
  refine own_go (fun _ => XS.iload X.here hx rfl (hb hby at_103) rfl) ?_
  show own_WP p e below _ T (mkF m 105 #[.val (.long x0), .second, .val (.long x2), .second, .val (.int x4), .val (.int x5), .val (.ref b2), .val (.int (x4 &&& (3 : Int32))), .unset, .unset, .unset] [(.int (x4 &&& (3 : Int32))), (.int (9 : Int32)), (.int (x5 &&& (2147483647 : Int32)))])
  refine own_go (fun _ => XS.isub X.here hx rfl (hb hby at_105) rfl) ?_
  show own_WP p e below _ T (mkF m 106 #[.val (.long x0), .second, .val (.long x2), .second, .val (.int x4), .val (.int x5), .val (.ref b2), .val (.int (x4 &&& (3 : Int32))), .unset, .unset, .unset] [(.int ((9 : Int32) - (x4 &&& (3 : Int32)))), (.int (x5 &&& (2147483647 : Int32)))])
  by_cases h106 : ((9 : Int32) - (x4 &&& (3 : Int32))) = (0 : Int32)
  · cases ((if_pos h106).symm.trans hv)
  replace hv := (if_neg h106).symm.trans hv
  refine own_go (fun _ => iremM X hx rfl (hb hby at_106) rfl h106) ?_
  show own_WP p e below _ T (mkF m 107 #[.val (.long x0), .second, .val (.long x2), .second, .val (.int x4), .val (.int x5), .val (.ref b2), .val (.int (x4 &&& (3 : Int32))), .unset, .unset, .unset] [(.int ((x5 &&& (2147483647 : Int32)) % ((9 : Int32) - (x4 &&& (3 : Int32)))))])
  generalize ((x5 &&& (2147483647 : Int32)) % ((9 : Int32) - (x4 &&& (3 : Int32)))) = y18 at hv ⊢
  replace hv := own_letE hv
  show own_WP p e below _ T (mkF m 107 #[.val (.long x0), .second, .val (.long x2), .second, .val (.int x4), .val (.int x5), .val (.ref b2), .val (.int (x4 &&& (3 : Int32))), .unset, .unset, .unset] [(.int y18)])
  refine own_go (fun _ => XS.istore X.here hx rfl (hb hby at_107) rfl (l' := #[.val (.long x0), .second, .val (.long x2), .second, .val (.int x4), .val (.int x5), .val (.ref b2), .val (.int (x4 &&& (3 : Int32))), .val (.int y18), .unset, .unset]) rfl) ?_
  show own_WP p e below _ T (mkF m 109 #[.val (.long x0), .second, .val (.long x2), .second, .val (.int x4), .val (.int x5), .val (.ref b2), .val (.int (x4 &&& (3 : Int32))), .val (.int y18), .unset, .unset] [])
  refine own_go (fun _ => XS.iload X.here hx rfl (hb hby at_109) rfl) ?_
  show own_WP p e below _ T (mkF m 111 #[.val (.long x0), .second, .val (.long x2), .second, .val (.int x4), .val (.int x5), .val (.ref b2), .val (.int (x4 &&& (3 : Int32))), .val (.int y18), .unset, .unset] [(.int (x4 &&& (3 : Int32)))])
  refine own_go (fun _ => XS.iload X.here hx rfl (hb hby at_111) rfl) ?_
  show own_WP p e below _ T (mkF m 113 #[.val (.long x0), .second, .val (.long x2), .second, .val (.int x4), .val (.int x5), .val (.ref b2), .val (.int (x4 &&& (3 : Int32))), .val (.int y18), .unset, .unset] [(.int y18), (.int (x4 &&& (3 : Int32)))])
  refine own_go (fun _ => XS.iadd X.here hx rfl (hb hby at_113) rfl) ?_
  show own_WP p e below _ T (mkF m 114 #[.val (.long x0), .second, .val (.long x2), .second, .val (.int x4), .val (.int x5), .val (.ref b2), .val (.int (x4 &&& (3 : Int32))), .val (.int y18), .unset, .unset] [(.int ((x4 &&& (3 : Int32)) + y18))])
  refine own_go (fun _ => XS.istore X.here hx rfl (hb hby at_114) rfl (l' := #[.val (.long x0), .second, .val (.long x2), .second, .val (.int x4), .val (.int x5), .val (.ref b2), .val (.int (x4 &&& (3 : Int32))), .val (.int y18), .val (.int ((x4 &&& (3 : Int32)) + y18)), .unset]) rfl) ?_
  show own_WP p e below _ T (mkF m 116 #[.val (.long x0), .second, .val (.long x2), .second, .val (.int x4), .val (.int x5), .val (.ref b2), .val (.int (x4 &&& (3 : Int32))), .val (.int y18), .val (.int ((x4 &&& (3 : Int32)) + y18)), .unset] [])
  refine own_go (fun _ => XS.iconst X.here hx rfl (hb hby at_116)) ?_
  show own_WP p e below _ T (mkF m 117 #[.val (.long x0), .second, .val (.long x2), .second, .val (.int x4), .val (.int x5), .val (.ref b2), .val (.int (x4 &&& (3 : Int32))), .val (.int y18), .val (.int ((x4 &&& (3 : Int32)) + y18)), .unset] [(.int (-1 : Int32))])
  refine own_go (fun _ => XS.istore X.here hx rfl (hb hby at_117) rfl (l' := #[.val (.long x0), .second, .val (.long x2), .second, .val (.int x4), .val (.int x5), .val (.ref b2), .val (.int (x4 &&& (3 : Int32))), .val (.int y18), .val (.int ((x4 &&& (3 : Int32)) + y18)), .val (.int (-1 : Int32))]) rfl) ?_
  show own_WP p e below _ T (mkF m 119 #[.val (.long x0), .second, .val (.long x2), .second, .val (.int x4), .val (.int x5), .val (.ref b2), .val (.int (x4 &&& (3 : Int32))), .val (.int y18), .val (.int ((x4 &&& (3 : Int32)) + y18)), .val (.int (-1 : Int32))] [])
  refine own_go (fun _ => XS.aload X.here hx rfl (hb hby at_119) rfl rfl) ?_
  show own_WP p e below _ T (mkF m 121 #[.val (.long x0), .second, .val (.long x2), .second, .val (.int x4), .val (.int x5), .val (.ref b2), .val (.int (x4 &&& (3 : Int32))), .val (.int y18), .val (.int ((x4 &&& (3 : Int32)) + y18)), .val (.int (-1 : Int32))] [(.ref b2)])
  refine own_go (fun _ => XS.iload X.here hx rfl (hb hby at_121) rfl) ?_
  show own_WP p e below _ T (mkF m 123 #[.val (.long x0), .second, .val (.long x2), .second, .val (.int x4), .val (.int x5), .val (.ref b2), .val (.int (x4 &&& (3 : Int32))), .val (.int y18), .val (.int ((x4 &&& (3 : Int32)) + y18)), .val (.int (-1 : Int32))] [(.int (x4 &&& (3 : Int32))), (.ref b2)])
  refine own_go (fun _ => XS.iload X.here hx rfl (hb hby at_123) rfl) ?_
  show own_WP p e below _ T (mkF m 125 #[.val (.long x0), .second, .val (.long x2), .second, .val (.int x4), .val (.int x5), .val (.ref b2), .val (.int (x4 &&& (3 : Int32))), .val (.int y18), .val (.int ((x4 &&& (3 : Int32)) + y18)), .val (.int (-1 : Int32))] [(.int ((x4 &&& (3 : Int32)) + y18)), (.int (x4 &&& (3 : Int32))), (.ref b2)])
  refine own_go (fun _ => XS.bipush X.here hx rfl (hb hby at_125)) ?_
  show own_WP p e below _ T (mkF m 127 #[.val (.long x0), .second, .val (.long x2), .second, .val (.int x4), .val (.int x5), .val (.ref b2), .val (.int (x4 &&& (3 : Int32))), .val (.int y18), .val (.int ((x4 &&& (3 : Int32)) + y18)), .val (.int (-1 : Int32))] [(.int (7 : Int32)), (.int ((x4 &&& (3 : Int32)) + y18)), (.int (x4 &&& (3 : Int32))), (.ref b2)])
  refine own_go (fun _ => XS.iload X.here hx rfl (hb hby at_127) rfl) ?_
  show own_WP p e below _ T (mkF m 129 #[.val (.long x0), .second, .val (.long x2), .second, .val (.int x4), .val (.int x5), .val (.ref b2), .val (.int (x4 &&& (3 : Int32))), .val (.int y18), .val (.int ((x4 &&& (3 : Int32)) + y18)), .val (.int (-1 : Int32))] [(.int (-1 : Int32)), (.int (7 : Int32)), (.int ((x4 &&& (3 : Int32)) + y18)), (.int (x4 &&& (3 : Int32))), (.ref b2)])
  obtain ⟨rr19, hf19, hv⟩ := own_bind hv
  obtain ⟨T19, v19, L19, X19, ⟨N19, K19, Q19⟩, st19⟩ := own_callS X C (argsL := [(.ref b2), (.int (x4 &&& (3 : Int32))), (.int ((x4 &&& (3 : Int32)) + y18)), (.int (7 : Int32)), (.int (-1 : Int32))]) (rm2 l Z a0 hw n0 h (by have q := K.1; omega) (by omega) V_b2 (x4 &&& (3 : Int32)) ((x4 &&& (3 : Int32)) + y18) (7 : Int32) (-1 : Int32) rr19 hf19) (hw _ (List.mem_of_getElem? (i := 7) rfl)) (hw _ (List.mem_of_getElem? (i := 8) rfl)) (hw _ (List.mem_of_getElem? (i := 3) rfl)) (hw _ (List.mem_of_getElem? (i := 9) rfl)) (by decide) e0 (W := 0) (pc := 129) (Ls := #[.val (.long x0), .second, .val (.long x2), .second, .val (.int x4), .val (.int x5), .val (.ref b2), .val (.int (x4 &&& (3 : Int32))), .val (.int y18), .val (.int ((x4 &&& (3 : Int32)) + y18)), .val (.int (-1 : Int32))]) rfl (lenOf pd2 rfl) (rest := []) (stk := [(.int (-1 : Int32)), (.int (7 : Int32)), (.int ((x4 &&& (3 : Int32)) + y18)), (.int (x4 &&& (3 : Int32))), (.ref b2)]) rfl (Nat.le_of_ble_eq_true rfl) (hb hby at_129) (by decide) (by decide) (by decide) (by decide)
  replace N := Fr.app N N19
  replace V_b2 := V_b2.keep K19 nin0
  obtain ⟨rfl⟩ := Q19
  replace K := K.trans K19 all0
  refine own_go st19 ?_
  show own_WP p e below _ T19 (mkF m 132 #[.val (.long x0), .second, .val (.long x2), .second, .val (.int x4), .val (.int x5), .val (.ref b2), .val (.int (x4 &&& (3 : Int32))), .val (.int y18), .val (.int ((x4 &&& (3 : Int32)) + y18)), .val (.int (-1 : Int32))] [(.int rr19)])
  refine own_go (fun _ => XS.istore X19.here hx rfl (hb hby at_132) rfl (l' := #[.val (.long x0), .second, .val (.long x2), .second, .val (.int x4), .val (.int x5), .val (.ref b2), .val (.int (x4 &&& (3 : Int32))), .val (.int y18), .val (.int ((x4 &&& (3 : Int32)) + y18)), .val (.int rr19)]) rfl) ?_
  show own_WP p e below _ T19 (mkF m 134 #[.val (.long x0), .second, .val (.long x2), .second, .val (.int x4), .val (.int x5), .val (.ref b2), .val (.int (x4 &&& (3 : Int32))), .val (.int y18), .val (.int ((x4 &&& (3 : Int32)) + y18)), .val (.int rr19)] [])
  refine own_go (fun _ => XS.aload X19.here hx rfl (hb hby at_134) rfl rfl) ?_
  show own_WP p e below _ T19 (mkF m 136 #[.val (.long x0), .second, .val (.long x2), .second, .val (.int x4), .val (.int x5), .val (.ref b2), .val (.int (x4 &&& (3 : Int32))), .val (.int y18), .val (.int ((x4 &&& (3 : Int32)) + y18)), .val (.int rr19)] [(.ref b2)])
  refine own_go (fun _ => XS.iload X19.here hx rfl (hb hby at_136) rfl) ?_
  show own_WP p e below _ T19 (mkF m 138 #[.val (.long x0), .second, .val (.long x2), .second, .val (.int x4), .val (.int x5), .val (.ref b2), .val (.int (x4 &&& (3 : Int32))), .val (.int y18), .val (.int ((x4 &&& (3 : Int32)) + y18)), .val (.int rr19)] [(.int (x4 &&& (3 : Int32))), (.ref b2)])
  refine own_go (fun _ => XS.iload X19.here hx rfl (hb hby at_138) rfl) ?_
  show own_WP p e below _ T19 (mkF m 140 #[.val (.long x0), .second, .val (.long x2), .second, .val (.int x4), .val (.int x5), .val (.ref b2), .val (.int (x4 &&& (3 : Int32))), .val (.int y18), .val (.int ((x4 &&& (3 : Int32)) + y18)), .val (.int rr19)] [(.int ((x4 &&& (3 : Int32)) + y18)), (.int (x4 &&& (3 : Int32))), (.ref b2)])
  refine own_go (fun _ => XS.bipush X19.here hx rfl (hb hby at_140)) ?_
  show own_WP p e below _ T19 (mkF m 142 #[.val (.long x0), .second, .val (.long x2), .second, .val (.int x4), .val (.int x5), .val (.ref b2), .val (.int (x4 &&& (3 : Int32))), .val (.int y18), .val (.int ((x4 &&& (3 : Int32)) + y18)), .val (.int rr19)] [(.int (6 : Int32)), (.int ((x4 &&& (3 : Int32)) + y18)), (.int (x4 &&& (3 : Int32))), (.ref b2)])
  refine own_go (fun _ => XS.iload X19.here hx rfl (hb hby at_142) rfl) ?_
  show own_WP p e below _ T19 (mkF m 144 #[.val (.long x0), .second, .val (.long x2), .second, .val (.int x4), .val (.int x5), .val (.ref b2), .val (.int (x4 &&& (3 : Int32))), .val (.int y18), .val (.int ((x4 &&& (3 : Int32)) + y18)), .val (.int rr19)] [(.int rr19), (.int (6 : Int32)), (.int ((x4 &&& (3 : Int32)) + y18)), (.int (x4 &&& (3 : Int32))), (.ref b2)])
  obtain ⟨rr20, hf20, hv⟩ := own_bind hv
  obtain ⟨T20, v20, L20, X20, ⟨N20, K20, Q20⟩, st20⟩ := own_callS X19 C (argsL := [(.ref b2), (.int (x4 &&& (3 : Int32))), (.int ((x4 &&& (3 : Int32)) + y18)), (.int (6 : Int32)), (.int rr19)]) (rm2 l Z a0 hw n0 T19.heap (by have q := K.1; omega) (by omega) V_b2 (x4 &&& (3 : Int32)) ((x4 &&& (3 : Int32)) + y18) (6 : Int32) rr19 rr20 hf20) (hw _ (List.mem_of_getElem? (i := 7) rfl)) (hw _ (List.mem_of_getElem? (i := 8) rfl)) (hw _ (List.mem_of_getElem? (i := 3) rfl)) (hw _ (List.mem_of_getElem? (i := 9) rfl)) (by decide) (rfl : T19.heap = T19.heap) (W := 0) (pc := 144) (Ls := #[.val (.long x0), .second, .val (.long x2), .second, .val (.int x4), .val (.int x5), .val (.ref b2), .val (.int (x4 &&& (3 : Int32))), .val (.int y18), .val (.int ((x4 &&& (3 : Int32)) + y18)), .val (.int rr19)]) rfl (lenOf pd2 rfl) (rest := []) (stk := [(.int rr19), (.int (6 : Int32)), (.int ((x4 &&& (3 : Int32)) + y18)), (.int (x4 &&& (3 : Int32))), (.ref b2)]) rfl (Nat.le_of_ble_eq_true rfl) (hb hby at_144) (by decide) (by decide) (by decide) (by decide)
  replace N := Fr.app N N20
  replace V_b2 := V_b2.keep K20 nin0
  obtain ⟨rfl⟩ := Q20
  replace K := K.trans K20 all0
  refine own_go st20 ?_
  show own_WP p e below _ T20 (mkF m 147 #[.val (.long x0), .second, .val (.long x2), .second, .val (.int x4), .val (.int x5), .val (.ref b2), .val (.int (x4 &&& (3 : Int32))), .val (.int y18), .val (.int ((x4 &&& (3 : Int32)) + y18)), .val (.int rr19)] [(.int rr20)])
  refine own_go (fun _ => XS.istore X20.here hx rfl (hb hby at_147) rfl (l' := #[.val (.long x0), .second, .val (.long x2), .second, .val (.int x4), .val (.int x5), .val (.ref b2), .val (.int (x4 &&& (3 : Int32))), .val (.int y18), .val (.int ((x4 &&& (3 : Int32)) + y18)), .val (.int rr20)]) rfl) ?_
  show own_WP p e below _ T20 (mkF m 149 #[.val (.long x0), .second, .val (.long x2), .second, .val (.int x4), .val (.int x5), .val (.ref b2), .val (.int (x4 &&& (3 : Int32))), .val (.int y18), .val (.int ((x4 &&& (3 : Int32)) + y18)), .val (.int rr20)] [])
  refine own_go (fun _ => XS.aload X20.here hx rfl (hb hby at_149) rfl rfl) ?_
  show own_WP p e below _ T20 (mkF m 151 #[.val (.long x0), .second, .val (.long x2), .second, .val (.int x4), .val (.int x5), .val (.ref b2), .val (.int (x4 &&& (3 : Int32))), .val (.int y18), .val (.int ((x4 &&& (3 : Int32)) + y18)), .val (.int rr20)] [(.ref b2)])
  refine own_go (fun _ => XS.iload X20.here hx rfl (hb hby at_151) rfl) ?_
  show own_WP p e below _ T20 (mkF m 153 #[.val (.long x0), .second, .val (.long x2), .second, .val (.int x4), .val (.int x5), .val (.ref b2), .val (.int (x4 &&& (3 : Int32))), .val (.int y18), .val (.int ((x4 &&& (3 : Int32)) + y18)), .val (.int rr20)] [(.int (x4 &&& (3 : Int32))), (.ref b2)])
  refine own_go (fun _ => XS.iload X20.here hx rfl (hb hby at_153) rfl) ?_
  show own_WP p e below _ T20 (mkF m 155 #[.val (.long x0), .second, .val (.long x2), .second, .val (.int x4), .val (.int x5), .val (.ref b2), .val (.int (x4 &&& (3 : Int32))), .val (.int y18), .val (.int ((x4 &&& (3 : Int32)) + y18)), .val (.int rr20)] [(.int ((x4 &&& (3 : Int32)) + y18)), (.int (x4 &&& (3 : Int32))), (.ref b2)])
  refine own_go (fun _ => XS.iconst X20.here hx rfl (hb hby at_155)) ?_
  show own_WP p e below _ T20 (mkF m 156 #[.val (.long x0), .second, .val (.long x2), .second, .val (.int x4), .val (.int x5), .val (.ref b2), .val (.int (x4 &&& (3 : Int32))), .val (.int y18), .val (.int ((x4 &&& (3 : Int32)) + y18)), .val (.int rr20)] [(.int (5 : Int32)), (.int ((x4 &&& (3 : Int32)) + y18)), (.int (x4 &&& (3 : Int32))), (.ref b2)])
  refine own_go (fun _ => XS.iload X20.here hx rfl (hb hby at_156) rfl) ?_
  show own_WP p e below _ T20 (mkF m 158 #[.val (.long x0), .second, .val (.long x2), .second, .val (.int x4), .val (.int x5), .val (.ref b2), .val (.int (x4 &&& (3 : Int32))), .val (.int y18), .val (.int ((x4 &&& (3 : Int32)) + y18)), .val (.int rr20)] [(.int rr20), (.int (5 : Int32)), (.int ((x4 &&& (3 : Int32)) + y18)), (.int (x4 &&& (3 : Int32))), (.ref b2)])
  obtain ⟨rr21, hf21, hv⟩ := own_bind hv
  obtain ⟨T21, v21, L21, X21, ⟨N21, K21, Q21⟩, st21⟩ := own_callS X20 C (argsL := [(.ref b2), (.int (x4 &&& (3 : Int32))), (.int ((x4 &&& (3 : Int32)) + y18)), (.int (5 : Int32)), (.int rr20)]) (rm2 l Z a0 hw n0 T20.heap (by have q := K.1; omega) (by omega) V_b2 (x4 &&& (3 : Int32)) ((x4 &&& (3 : Int32)) + y18) (5 : Int32) rr20 rr21 hf21) (hw _ (List.mem_of_getElem? (i := 7) rfl)) (hw _ (List.mem_of_getElem? (i := 8) rfl)) (hw _ (List.mem_of_getElem? (i := 3) rfl)) (hw _ (List.mem_of_getElem? (i := 9) rfl)) (by decide) (rfl : T20.heap = T20.heap) (W := 0) (pc := 158) (Ls := #[.val (.long x0), .second, .val (.long x2), .second, .val (.int x4), .val (.int x5), .val (.ref b2), .val (.int (x4 &&& (3 : Int32))), .val (.int y18), .val (.int ((x4 &&& (3 : Int32)) + y18)), .val (.int rr20)]) rfl (lenOf pd2 rfl) (rest := []) (stk := [(.int rr20), (.int (5 : Int32)), (.int ((x4 &&& (3 : Int32)) + y18)), (.int (x4 &&& (3 : Int32))), (.ref b2)]) rfl (Nat.le_of_ble_eq_true rfl) (hb hby at_158) (by decide) (by decide) (by decide) (by decide)
  replace N := Fr.app N N21
  replace V_b2 := V_b2.keep K21 nin0
  obtain ⟨rfl⟩ := Q21
  replace K := K.trans K21 all0
  refine own_go st21 ?_
  show own_WP p e below _ T21 (mkF m 161 #[.val (.long x0), .second, .val (.long x2), .second, .val (.int x4), .val (.int x5), .val (.ref b2), .val (.int (x4 &&& (3 : Int32))), .val (.int y18), .val (.int ((x4 &&& (3 : Int32)) + y18)), .val (.int rr20)] [(.int rr21)])
  refine own_go (fun _ => XS.istore X21.here hx rfl (hb hby at_161) rfl (l' := #[.val (.long x0), .second, .val (.long x2), .second, .val (.int x4), .val (.int x5), .val (.ref b2), .val (.int (x4 &&& (3 : Int32))), .val (.int y18), .val (.int ((x4 &&& (3 : Int32)) + y18)), .val (.int rr21)]) rfl) ?_
  show own_WP p e below _ T21 (mkF m 163 #[.val (.long x0), .second, .val (.long x2), .second, .val (.int x4), .val (.int x5), .val (.ref b2), .val (.int (x4 &&& (3 : Int32))), .val (.int y18), .val (.int ((x4 &&& (3 : Int32)) + y18)), .val (.int rr21)] [])
  refine own_go (fun _ => XS.aload X21.here hx rfl (hb hby at_163) rfl rfl) ?_
  show own_WP p e below _ T21 (mkF m 165 #[.val (.long x0), .second, .val (.long x2), .second, .val (.int x4), .val (.int x5), .val (.ref b2), .val (.int (x4 &&& (3 : Int32))), .val (.int y18), .val (.int ((x4 &&& (3 : Int32)) + y18)), .val (.int rr21)] [(.ref b2)])
  refine own_go (fun _ => XS.iload X21.here hx rfl (hb hby at_165) rfl) ?_
  show own_WP p e below _ T21 (mkF m 167 #[.val (.long x0), .second, .val (.long x2), .second, .val (.int x4), .val (.int x5), .val (.ref b2), .val (.int (x4 &&& (3 : Int32))), .val (.int y18), .val (.int ((x4 &&& (3 : Int32)) + y18)), .val (.int rr21)] [(.int (x4 &&& (3 : Int32))), (.ref b2)])
  refine own_go (fun _ => XS.iload X21.here hx rfl (hb hby at_167) rfl) ?_
  show own_WP p e below _ T21 (mkF m 169 #[.val (.long x0), .second, .val (.long x2), .second, .val (.int x4), .val (.int x5), .val (.ref b2), .val (.int (x4 &&& (3 : Int32))), .val (.int y18), .val (.int ((x4 &&& (3 : Int32)) + y18)), .val (.int rr21)] [(.int ((x4 &&& (3 : Int32)) + y18)), (.int (x4 &&& (3 : Int32))), (.ref b2)])
  refine own_go (fun _ => XS.iconst X21.here hx rfl (hb hby at_169)) ?_
  show own_WP p e below _ T21 (mkF m 170 #[.val (.long x0), .second, .val (.long x2), .second, .val (.int x4), .val (.int x5), .val (.ref b2), .val (.int (x4 &&& (3 : Int32))), .val (.int y18), .val (.int ((x4 &&& (3 : Int32)) + y18)), .val (.int rr21)] [(.int (4 : Int32)), (.int ((x4 &&& (3 : Int32)) + y18)), (.int (x4 &&& (3 : Int32))), (.ref b2)])
  refine own_go (fun _ => XS.iload X21.here hx rfl (hb hby at_170) rfl) ?_
  show own_WP p e below _ T21 (mkF m 172 #[.val (.long x0), .second, .val (.long x2), .second, .val (.int x4), .val (.int x5), .val (.ref b2), .val (.int (x4 &&& (3 : Int32))), .val (.int y18), .val (.int ((x4 &&& (3 : Int32)) + y18)), .val (.int rr21)] [(.int rr21), (.int (4 : Int32)), (.int ((x4 &&& (3 : Int32)) + y18)), (.int (x4 &&& (3 : Int32))), (.ref b2)])
  obtain ⟨rr22, hf22, hv⟩ := own_bind hv
  obtain ⟨T22, v22, L22, X22, ⟨N22, K22, Q22⟩, st22⟩ := own_callS X21 C (argsL := [(.ref b2), (.int (x4 &&& (3 : Int32))), (.int ((x4 &&& (3 : Int32)) + y18)), (.int (4 : Int32)), (.int rr21)]) (rm2 l Z a0 hw n0 T21.heap (by have q := K.1; omega) (by omega) V_b2 (x4 &&& (3 : Int32)) ((x4 &&& (3 : Int32)) + y18) (4 : Int32) rr21 rr22 hf22) (hw _ (List.mem_of_getElem? (i := 7) rfl)) (hw _ (List.mem_of_getElem? (i := 8) rfl)) (hw _ (List.mem_of_getElem? (i := 3) rfl)) (hw _ (List.mem_of_getElem? (i := 9) rfl)) (by decide) (rfl : T21.heap = T21.heap) (W := 0) (pc := 172) (Ls := #[.val (.long x0), .second, .val (.long x2), .second, .val (.int x4), .val (.int x5), .val (.ref b2), .val (.int (x4 &&& (3 : Int32))), .val (.int y18), .val (.int ((x4 &&& (3 : Int32)) + y18)), .val (.int rr21)]) rfl (lenOf pd2 rfl) (rest := []) (stk := [(.int rr21), (.int (4 : Int32)), (.int ((x4 &&& (3 : Int32)) + y18)), (.int (x4 &&& (3 : Int32))), (.ref b2)]) rfl (Nat.le_of_ble_eq_true rfl) (hb hby at_172) (by decide) (by decide) (by decide) (by decide)
  replace N := Fr.app N N22
  replace V_b2 := V_b2.keep K22 nin0
  obtain ⟨rfl⟩ := Q22
  replace K := K.trans K22 all0
  refine own_go st22 ?_
  show own_WP p e below _ T22 (mkF m 175 #[.val (.long x0), .second, .val (.long x2), .second, .val (.int x4), .val (.int x5), .val (.ref b2), .val (.int (x4 &&& (3 : Int32))), .val (.int y18), .val (.int ((x4 &&& (3 : Int32)) + y18)), .val (.int rr21)] [(.int rr22)])
  refine own_go (fun _ => XS.istore X22.here hx rfl (hb hby at_175) rfl (l' := #[.val (.long x0), .second, .val (.long x2), .second, .val (.int x4), .val (.int x5), .val (.ref b2), .val (.int (x4 &&& (3 : Int32))), .val (.int y18), .val (.int ((x4 &&& (3 : Int32)) + y18)), .val (.int rr22)]) rfl) ?_
  show own_WP p e below _ T22 (mkF m 177 #[.val (.long x0), .second, .val (.long x2), .second, .val (.int x4), .val (.int x5), .val (.ref b2), .val (.int (x4 &&& (3 : Int32))), .val (.int y18), .val (.int ((x4 &&& (3 : Int32)) + y18)), .val (.int rr22)] [])
  refine own_go (fun _ => XS.aload X22.here hx rfl (hb hby at_177) rfl rfl) ?_
  show own_WP p e below _ T22 (mkF m 179 #[.val (.long x0), .second, .val (.long x2), .second, .val (.int x4), .val (.int x5), .val (.ref b2), .val (.int (x4 &&& (3 : Int32))), .val (.int y18), .val (.int ((x4 &&& (3 : Int32)) + y18)), .val (.int rr22)] [(.ref b2)])
  refine own_go (fun _ => XS.iload X22.here hx rfl (hb hby at_179) rfl) ?_
  show own_WP p e below _ T22 (mkF m 181 #[.val (.long x0), .second, .val (.long x2), .second, .val (.int x4), .val (.int x5), .val (.ref b2), .val (.int (x4 &&& (3 : Int32))), .val (.int y18), .val (.int ((x4 &&& (3 : Int32)) + y18)), .val (.int rr22)] [(.int (x4 &&& (3 : Int32))), (.ref b2)])
  refine own_go (fun _ => XS.iload X22.here hx rfl (hb hby at_181) rfl) ?_
  show own_WP p e below _ T22 (mkF m 183 #[.val (.long x0), .second, .val (.long x2), .second, .val (.int x4), .val (.int x5), .val (.ref b2), .val (.int (x4 &&& (3 : Int32))), .val (.int y18), .val (.int ((x4 &&& (3 : Int32)) + y18)), .val (.int rr22)] [(.int ((x4 &&& (3 : Int32)) + y18)), (.int (x4 &&& (3 : Int32))), (.ref b2)])
  refine own_go (fun _ => XS.iconst X22.here hx rfl (hb hby at_183)) ?_
  show own_WP p e below _ T22 (mkF m 184 #[.val (.long x0), .second, .val (.long x2), .second, .val (.int x4), .val (.int x5), .val (.ref b2), .val (.int (x4 &&& (3 : Int32))), .val (.int y18), .val (.int ((x4 &&& (3 : Int32)) + y18)), .val (.int rr22)] [(.int (3 : Int32)), (.int ((x4 &&& (3 : Int32)) + y18)), (.int (x4 &&& (3 : Int32))), (.ref b2)])
  refine own_go (fun _ => XS.iload X22.here hx rfl (hb hby at_184) rfl) ?_
  show own_WP p e below _ T22 (mkF m 186 #[.val (.long x0), .second, .val (.long x2), .second, .val (.int x4), .val (.int x5), .val (.ref b2), .val (.int (x4 &&& (3 : Int32))), .val (.int y18), .val (.int ((x4 &&& (3 : Int32)) + y18)), .val (.int rr22)] [(.int rr22), (.int (3 : Int32)), (.int ((x4 &&& (3 : Int32)) + y18)), (.int (x4 &&& (3 : Int32))), (.ref b2)])
  obtain ⟨rr23, hf23, hv⟩ := own_bind hv
  obtain ⟨T23, v23, L23, X23, ⟨N23, K23, Q23⟩, st23⟩ := own_callS X22 C (argsL := [(.ref b2), (.int (x4 &&& (3 : Int32))), (.int ((x4 &&& (3 : Int32)) + y18)), (.int (3 : Int32)), (.int rr22)]) (rm2 l Z a0 hw n0 T22.heap (by have q := K.1; omega) (by omega) V_b2 (x4 &&& (3 : Int32)) ((x4 &&& (3 : Int32)) + y18) (3 : Int32) rr22 rr23 hf23) (hw _ (List.mem_of_getElem? (i := 7) rfl)) (hw _ (List.mem_of_getElem? (i := 8) rfl)) (hw _ (List.mem_of_getElem? (i := 3) rfl)) (hw _ (List.mem_of_getElem? (i := 9) rfl)) (by decide) (rfl : T22.heap = T22.heap) (W := 0) (pc := 186) (Ls := #[.val (.long x0), .second, .val (.long x2), .second, .val (.int x4), .val (.int x5), .val (.ref b2), .val (.int (x4 &&& (3 : Int32))), .val (.int y18), .val (.int ((x4 &&& (3 : Int32)) + y18)), .val (.int rr22)]) rfl (lenOf pd2 rfl) (rest := []) (stk := [(.int rr22), (.int (3 : Int32)), (.int ((x4 &&& (3 : Int32)) + y18)), (.int (x4 &&& (3 : Int32))), (.ref b2)]) rfl (Nat.le_of_ble_eq_true rfl) (hb hby at_186) (by decide) (by decide) (by decide) (by decide)
  replace N := Fr.app N N23
  replace V_b2 := V_b2.keep K23 nin0
  obtain ⟨rfl⟩ := Q23
  replace K := K.trans K23 all0
  refine own_go st23 ?_
  show own_WP p e below _ T23 (mkF m 189 #[.val (.long x0), .second, .val (.long x2), .second, .val (.int x4), .val (.int x5), .val (.ref b2), .val (.int (x4 &&& (3 : Int32))), .val (.int y18), .val (.int ((x4 &&& (3 : Int32)) + y18)), .val (.int rr22)] [(.int rr23)])
  refine own_go (fun _ => XS.istore X23.here hx rfl (hb hby at_189) rfl (l' := #[.val (.long x0), .second, .val (.long x2), .second, .val (.int x4), .val (.int x5), .val (.ref b2), .val (.int (x4 &&& (3 : Int32))), .val (.int y18), .val (.int ((x4 &&& (3 : Int32)) + y18)), .val (.int rr23)]) rfl) ?_
  show own_WP p e below _ T23 (mkF m 191 #[.val (.long x0), .second, .val (.long x2), .second, .val (.int x4), .val (.int x5), .val (.ref b2), .val (.int (x4 &&& (3 : Int32))), .val (.int y18), .val (.int ((x4 &&& (3 : Int32)) + y18)), .val (.int rr23)] [])
  refine own_go (fun _ => XS.aload X23.here hx rfl (hb hby at_191) rfl rfl) ?_
  show own_WP p e below _ T23 (mkF m 193 #[.val (.long x0), .second, .val (.long x2), .second, .val (.int x4), .val (.int x5), .val (.ref b2), .val (.int (x4 &&& (3 : Int32))), .val (.int y18), .val (.int ((x4 &&& (3 : Int32)) + y18)), .val (.int rr23)] [(.ref b2)])
  refine own_go (fun _ => XS.iload X23.here hx rfl (hb hby at_193) rfl) ?_
  show own_WP p e below _ T23 (mkF m 195 #[.val (.long x0), .second, .val (.long x2), .second, .val (.int x4), .val (.int x5), .val (.ref b2), .val (.int (x4 &&& (3 : Int32))), .val (.int y18), .val (.int ((x4 &&& (3 : Int32)) + y18)), .val (.int rr23)] [(.int (x4 &&& (3 : Int32))), (.ref b2)])
  refine own_go (fun _ => XS.iload X23.here hx rfl (hb hby at_195) rfl) ?_
  show own_WP p e below _ T23 (mkF m 197 #[.val (.long x0), .second, .val (.long x2), .second, .val (.int x4), .val (.int x5), .val (.ref b2), .val (.int (x4 &&& (3 : Int32))), .val (.int y18), .val (.int ((x4 &&& (3 : Int32)) + y18)), .val (.int rr23)] [(.int ((x4 &&& (3 : Int32)) + y18)), (.int (x4 &&& (3 : Int32))), (.ref b2)])
  refine own_go (fun _ => XS.iconst X23.here hx rfl (hb hby at_197)) ?_
  show own_WP p e below _ T23 (mkF m 198 #[.val (.long x0), .second, .val (.long x2), .second, .val (.int x4), .val (.int x5), .val (.ref b2), .val (.int (x4 &&& (3 : Int32))), .val (.int y18), .val (.int ((x4 &&& (3 : Int32)) + y18)), .val (.int rr23)] [(.int (2 : Int32)), (.int ((x4 &&& (3 : Int32)) + y18)), (.int (x4 &&& (3 : Int32))), (.ref b2)])
  refine own_go (fun _ => XS.iload X23.here hx rfl (hb hby at_198) rfl) ?_
  show own_WP p e below _ T23 (mkF m 200 #[.val (.long x0), .second, .val (.long x2), .second, .val (.int x4), .val (.int x5), .val (.ref b2), .val (.int (x4 &&& (3 : Int32))), .val (.int y18), .val (.int ((x4 &&& (3 : Int32)) + y18)), .val (.int rr23)] [(.int rr23), (.int (2 : Int32)), (.int ((x4 &&& (3 : Int32)) + y18)), (.int (x4 &&& (3 : Int32))), (.ref b2)])
  obtain ⟨rr24, hf24, hv⟩ := own_bind hv
  obtain ⟨T24, v24, L24, X24, ⟨N24, K24, Q24⟩, st24⟩ := own_callS X23 C (argsL := [(.ref b2), (.int (x4 &&& (3 : Int32))), (.int ((x4 &&& (3 : Int32)) + y18)), (.int (2 : Int32)), (.int rr23)]) (rm2 l Z a0 hw n0 T23.heap (by have q := K.1; omega) (by omega) V_b2 (x4 &&& (3 : Int32)) ((x4 &&& (3 : Int32)) + y18) (2 : Int32) rr23 rr24 hf24) (hw _ (List.mem_of_getElem? (i := 7) rfl)) (hw _ (List.mem_of_getElem? (i := 8) rfl)) (hw _ (List.mem_of_getElem? (i := 3) rfl)) (hw _ (List.mem_of_getElem? (i := 9) rfl)) (by decide) (rfl : T23.heap = T23.heap) (W := 0) (pc := 200) (Ls := #[.val (.long x0), .second, .val (.long x2), .second, .val (.int x4), .val (.int x5), .val (.ref b2), .val (.int (x4 &&& (3 : Int32))), .val (.int y18), .val (.int ((x4 &&& (3 : Int32)) + y18)), .val (.int rr23)]) rfl (lenOf pd2 rfl) (rest := []) (stk := [(.int rr23), (.int (2 : Int32)), (.int ((x4 &&& (3 : Int32)) + y18)), (.int (x4 &&& (3 : Int32))), (.ref b2)]) rfl (Nat.le_of_ble_eq_true rfl) (hb hby at_200) (by decide) (by decide) (by decide) (by decide)
  replace N := Fr.app N N24
  replace V_b2 := V_b2.keep K24 nin0
  obtain ⟨rfl⟩ := Q24
  replace K := K.trans K24 all0
  refine own_go st24 ?_
  show own_WP p e below _ T24 (mkF m 203 #[.val (.long x0), .second, .val (.long x2), .second, .val (.int x4), .val (.int x5), .val (.ref b2), .val (.int (x4 &&& (3 : Int32))), .val (.int y18), .val (.int ((x4 &&& (3 : Int32)) + y18)), .val (.int rr23)] [(.int rr24)])
  refine own_go (fun _ => XS.istore X24.here hx rfl (hb hby at_203) rfl (l' := #[.val (.long x0), .second, .val (.long x2), .second, .val (.int x4), .val (.int x5), .val (.ref b2), .val (.int (x4 &&& (3 : Int32))), .val (.int y18), .val (.int ((x4 &&& (3 : Int32)) + y18)), .val (.int rr24)]) rfl) ?_
  show own_WP p e below _ T24 (mkF m 205 #[.val (.long x0), .second, .val (.long x2), .second, .val (.int x4), .val (.int x5), .val (.ref b2), .val (.int (x4 &&& (3 : Int32))), .val (.int y18), .val (.int ((x4 &&& (3 : Int32)) + y18)), .val (.int rr24)] [])
  refine own_go (fun _ => XS.aload X24.here hx rfl (hb hby at_205) rfl rfl) ?_
  show own_WP p e below _ T24 (mkF m 207 #[.val (.long x0), .second, .val (.long x2), .second, .val (.int x4), .val (.int x5), .val (.ref b2), .val (.int (x4 &&& (3 : Int32))), .val (.int y18), .val (.int ((x4 &&& (3 : Int32)) + y18)), .val (.int rr24)] [(.ref b2)])
  refine own_go (fun _ => XS.iload X24.here hx rfl (hb hby at_207) rfl) ?_
  show own_WP p e below _ T24 (mkF m 209 #[.val (.long x0), .second, .val (.long x2), .second, .val (.int x4), .val (.int x5), .val (.ref b2), .val (.int (x4 &&& (3 : Int32))), .val (.int y18), .val (.int ((x4 &&& (3 : Int32)) + y18)), .val (.int rr24)] [(.int (x4 &&& (3 : Int32))), (.ref b2)])
  refine own_go (fun _ => XS.iload X24.here hx rfl (hb hby at_209) rfl) ?_
  show own_WP p e below _ T24 (mkF m 211 #[.val (.long x0), .second, .val (.long x2), .second, .val (.int x4), .val (.int x5), .val (.ref b2), .val (.int (x4 &&& (3 : Int32))), .val (.int y18), .val (.int ((x4 &&& (3 : Int32)) + y18)), .val (.int rr24)] [(.int ((x4 &&& (3 : Int32)) + y18)), (.int (x4 &&& (3 : Int32))), (.ref b2)])
  refine own_go (fun _ => XS.iconst X24.here hx rfl (hb hby at_211)) ?_
  show own_WP p e below _ T24 (mkF m 212 #[.val (.long x0), .second, .val (.long x2), .second, .val (.int x4), .val (.int x5), .val (.ref b2), .val (.int (x4 &&& (3 : Int32))), .val (.int y18), .val (.int ((x4 &&& (3 : Int32)) + y18)), .val (.int rr24)] [(.int (1 : Int32)), (.int ((x4 &&& (3 : Int32)) + y18)), (.int (x4 &&& (3 : Int32))), (.ref b2)])
  refine own_go (fun _ => XS.iload X24.here hx rfl (hb hby at_212) rfl) ?_
  show own_WP p e below _ T24 (mkF m 214 #[.val (.long x0), .second, .val (.long x2), .second, .val (.int x4), .val (.int x5), .val (.ref b2), .val (.int (x4 &&& (3 : Int32))), .val (.int y18), .val (.int ((x4 &&& (3 : Int32)) + y18)), .val (.int rr24)] [(.int rr24), (.int (1 : Int32)), (.int ((x4 &&& (3 : Int32)) + y18)), (.int (x4 &&& (3 : Int32))), (.ref b2)])
  obtain ⟨rr25, hf25, hv⟩ := own_bind hv
  obtain ⟨T25, v25, L25, X25, ⟨N25, K25, Q25⟩, st25⟩ := own_callS X24 C (argsL := [(.ref b2), (.int (x4 &&& (3 : Int32))), (.int ((x4 &&& (3 : Int32)) + y18)), (.int (1 : Int32)), (.int rr24)]) (rm2 l Z a0 hw n0 T24.heap (by have q := K.1; omega) (by omega) V_b2 (x4 &&& (3 : Int32)) ((x4 &&& (3 : Int32)) + y18) (1 : Int32) rr24 rr25 hf25) (hw _ (List.mem_of_getElem? (i := 7) rfl)) (hw _ (List.mem_of_getElem? (i := 8) rfl)) (hw _ (List.mem_of_getElem? (i := 3) rfl)) (hw _ (List.mem_of_getElem? (i := 9) rfl)) (by decide) (rfl : T24.heap = T24.heap) (W := 0) (pc := 214) (Ls := #[.val (.long x0), .second, .val (.long x2), .second, .val (.int x4), .val (.int x5), .val (.ref b2), .val (.int (x4 &&& (3 : Int32))), .val (.int y18), .val (.int ((x4 &&& (3 : Int32)) + y18)), .val (.int rr24)]) rfl (lenOf pd2 rfl) (rest := []) (stk := [(.int rr24), (.int (1 : Int32)), (.int ((x4 &&& (3 : Int32)) + y18)), (.int (x4 &&& (3 : Int32))), (.ref b2)]) rfl (Nat.le_of_ble_eq_true rfl) (hb hby at_214) (by decide) (by decide) (by decide) (by decide)
  replace N := Fr.app N N25
  replace V_b2 := V_b2.keep K25 nin0
  obtain ⟨rfl⟩ := Q25
  replace K := K.trans K25 all0
  refine own_go st25 ?_
  show own_WP p e below _ T25 (mkF m 217 #[.val (.long x0), .second, .val (.long x2), .second, .val (.int x4), .val (.int x5), .val (.ref b2), .val (.int (x4 &&& (3 : Int32))), .val (.int y18), .val (.int ((x4 &&& (3 : Int32)) + y18)), .val (.int rr24)] [(.int rr25)])
  refine own_go (fun _ => XS.istore X25.here hx rfl (hb hby at_217) rfl (l' := #[.val (.long x0), .second, .val (.long x2), .second, .val (.int x4), .val (.int x5), .val (.ref b2), .val (.int (x4 &&& (3 : Int32))), .val (.int y18), .val (.int ((x4 &&& (3 : Int32)) + y18)), .val (.int rr25)]) rfl) ?_
  show own_WP p e below _ T25 (mkF m 219 #[.val (.long x0), .second, .val (.long x2), .second, .val (.int x4), .val (.int x5), .val (.ref b2), .val (.int (x4 &&& (3 : Int32))), .val (.int y18), .val (.int ((x4 &&& (3 : Int32)) + y18)), .val (.int rr25)] [])
  refine own_go (fun _ => XS.aload X25.here hx rfl (hb hby at_219) rfl rfl) ?_
  show own_WP p e below _ T25 (mkF m 221 #[.val (.long x0), .second, .val (.long x2), .second, .val (.int x4), .val (.int x5), .val (.ref b2), .val (.int (x4 &&& (3 : Int32))), .val (.int y18), .val (.int ((x4 &&& (3 : Int32)) + y18)), .val (.int rr25)] [(.ref b2)])
  refine own_go (fun _ => XS.iload X25.here hx rfl (hb hby at_221) rfl) ?_
  show own_WP p e below _ T25 (mkF m 223 #[.val (.long x0), .second, .val (.long x2), .second, .val (.int x4), .val (.int x5), .val (.ref b2), .val (.int (x4 &&& (3 : Int32))), .val (.int y18), .val (.int ((x4 &&& (3 : Int32)) + y18)), .val (.int rr25)] [(.int (x4 &&& (3 : Int32))), (.ref b2)])
  refine own_go (fun _ => XS.iload X25.here hx rfl (hb hby at_223) rfl) ?_
  show own_WP p e below _ T25 (mkF m 225 #[.val (.long x0), .second, .val (.long x2), .second, .val (.int x4), .val (.int x5), .val (.ref b2), .val (.int (x4 &&& (3 : Int32))), .val (.int y18), .val (.int ((x4 &&& (3 : Int32)) + y18)), .val (.int rr25)] [(.int ((x4 &&& (3 : Int32)) + y18)), (.int (x4 &&& (3 : Int32))), (.ref b2)])
  refine own_go (fun _ => XS.iconst X25.here hx rfl (hb hby at_225)) ?_
  show own_WP p e below _ T25 (mkF m 226 #[.val (.long x0), .second, .val (.long x2), .second, .val (.int x4), .val (.int x5), .val (.ref b2), .val (.int (x4 &&& (3 : Int32))), .val (.int y18), .val (.int ((x4 &&& (3 : Int32)) + y18)), .val (.int rr25)] [(.int (0 : Int32)), (.int ((x4 &&& (3 : Int32)) + y18)), (.int (x4 &&& (3 : Int32))), (.ref b2)])
  refine own_go (fun _ => XS.iload X25.here hx rfl (hb hby at_226) rfl) ?_
  show own_WP p e below _ T25 (mkF m 228 #[.val (.long x0), .second, .val (.long x2), .second, .val (.int x4), .val (.int x5), .val (.ref b2), .val (.int (x4 &&& (3 : Int32))), .val (.int y18), .val (.int ((x4 &&& (3 : Int32)) + y18)), .val (.int rr25)] [(.int rr25), (.int (0 : Int32)), (.int ((x4 &&& (3 : Int32)) + y18)), (.int (x4 &&& (3 : Int32))), (.ref b2)])
  obtain ⟨rr26, hf26, hv⟩ := own_bind hv
  obtain ⟨T26, v26, L26, X26, ⟨N26, K26, Q26⟩, st26⟩ := own_callS X25 C (argsL := [(.ref b2), (.int (x4 &&& (3 : Int32))), (.int ((x4 &&& (3 : Int32)) + y18)), (.int (0 : Int32)), (.int rr25)]) (rm2 l Z a0 hw n0 T25.heap (by have q := K.1; omega) (by omega) V_b2 (x4 &&& (3 : Int32)) ((x4 &&& (3 : Int32)) + y18) (0 : Int32) rr25 rr26 hf26) (hw _ (List.mem_of_getElem? (i := 7) rfl)) (hw _ (List.mem_of_getElem? (i := 8) rfl)) (hw _ (List.mem_of_getElem? (i := 3) rfl)) (hw _ (List.mem_of_getElem? (i := 9) rfl)) (by decide) (rfl : T25.heap = T25.heap) (W := 0) (pc := 228) (Ls := #[.val (.long x0), .second, .val (.long x2), .second, .val (.int x4), .val (.int x5), .val (.ref b2), .val (.int (x4 &&& (3 : Int32))), .val (.int y18), .val (.int ((x4 &&& (3 : Int32)) + y18)), .val (.int rr25)]) rfl (lenOf pd2 rfl) (rest := []) (stk := [(.int rr25), (.int (0 : Int32)), (.int ((x4 &&& (3 : Int32)) + y18)), (.int (x4 &&& (3 : Int32))), (.ref b2)]) rfl (Nat.le_of_ble_eq_true rfl) (hb hby at_228) (by decide) (by decide) (by decide) (by decide)
  replace N := Fr.app N N26
  replace V_b2 := V_b2.keep K26 nin0
  obtain ⟨rfl⟩ := Q26
  replace K := K.trans K26 all0
  refine own_go st26 ?_
  show own_WP p e below _ T26 (mkF m 231 #[.val (.long x0), .second, .val (.long x2), .second, .val (.int x4), .val (.int x5), .val (.ref b2), .val (.int (x4 &&& (3 : Int32))), .val (.int y18), .val (.int ((x4 &&& (3 : Int32)) + y18)), .val (.int rr25)] [(.int rr26)])
  refine own_go (fun _ => XS.istore X26.here hx rfl (hb hby at_231) rfl (l' := #[.val (.long x0), .second, .val (.long x2), .second, .val (.int x4), .val (.int x5), .val (.ref b2), .val (.int (x4 &&& (3 : Int32))), .val (.int y18), .val (.int ((x4 &&& (3 : Int32)) + y18)), .val (.int rr26)]) rfl) ?_
  show own_WP p e below _ T26 (mkF m 233 #[.val (.long x0), .second, .val (.long x2), .second, .val (.int x4), .val (.int x5), .val (.ref b2), .val (.int (x4 &&& (3 : Int32))), .val (.int y18), .val (.int ((x4 &&& (3 : Int32)) + y18)), .val (.int rr26)] [])
  refine own_go (fun _ => XS.aload X26.here hx rfl (hb hby at_233) rfl rfl) ?_
  show own_WP p e below _ T26 (mkF m 235 #[.val (.long x0), .second, .val (.long x2), .second, .val (.int x4), .val (.int x5), .val (.ref b2), .val (.int (x4 &&& (3 : Int32))), .val (.int y18), .val (.int ((x4 &&& (3 : Int32)) + y18)), .val (.int rr26)] [(.ref b2)])
  refine own_go (fun _ => XS.iload X26.here hx rfl (hb hby at_235) rfl) ?_
  show own_WP p e below _ T26 (mkF m 237 #[.val (.long x0), .second, .val (.long x2), .second, .val (.int x4), .val (.int x5), .val (.ref b2), .val (.int (x4 &&& (3 : Int32))), .val (.int y18), .val (.int ((x4 &&& (3 : Int32)) + y18)), .val (.int rr26)] [(.int (x4 &&& (3 : Int32))), (.ref b2)])
  refine own_go (fun _ => XS.iload X26.here hx rfl (hb hby at_237) rfl) ?_
  show own_WP p e below _ T26 (mkF m 239 #[.val (.long x0), .second, .val (.long x2), .second, .val (.int x4), .val (.int x5), .val (.ref b2), .val (.int (x4 &&& (3 : Int32))), .val (.int y18), .val (.int ((x4 &&& (3 : Int32)) + y18)), .val (.int rr26)] [(.int y18), (.int (x4 &&& (3 : Int32))), (.ref b2)])
  obtain ⟨rr27, hf27, hv⟩ := own_bind hv
  obtain ⟨T27, v27, L27, X27, ⟨N27, K27, Q27⟩, st27⟩ := own_callS X26 C (argsL := [(.ref b2), (.int (x4 &&& (3 : Int32))), (.int y18)]) (rm4 l Z a0 hw n0 T26.heap (by have q := K.1; omega) (by omega) V_b2 (x4 &&& (3 : Int32)) y18 rr27 hf27) (hw _ (List.mem_of_getElem? (i := 13) rfl)) (hw _ (List.mem_of_getElem? (i := 14) rfl)) (hw _ (List.mem_of_getElem? (i := 15) rfl)) (hw _ (List.mem_of_getElem? (i := 16) rfl)) (by decide) (rfl : T26.heap = T26.heap) (W := 0) (pc := 239) (Ls := #[.val (.long x0), .second, .val (.long x2), .second, .val (.int x4), .val (.int x5), .val (.ref b2), .val (.int (x4 &&& (3 : Int32))), .val (.int y18), .val (.int ((x4 &&& (3 : Int32)) + y18)), .val (.int rr26)]) rfl (lenOf pd4 rfl) (rest := []) (stk := [(.int y18), (.int (x4 &&& (3 : Int32))), (.ref b2)]) rfl (Nat.le_of_ble_eq_true rfl) (hb hby at_239) (by decide) (by decide) (by decide) (by decide)
  replace N := Fr.app N N27
  replace V_b2 := V_b2.keep K27 nin0
  obtain ⟨rfl⟩ := Q27
  replace K := K.trans K27 all0
  refine own_go st27 ?_
  show own_WP p e below _ T27 (mkF m 242 #[.val (.long x0), .second, .val (.long x2), .second, .val (.int x4), .val (.int x5), .val (.ref b2), .val (.int (x4 &&& (3 : Int32))), .val (.int y18), .val (.int ((x4 &&& (3 : Int32)) + y18)), .val (.int rr26)] [(.int rr27)])
  refine own_go (fun _ => XS.iload X27.here hx rfl (hb hby at_242) rfl) ?_
  show own_WP p e below _ T27 (mkF m 244 #[.val (.long x0), .second, .val (.long x2), .second, .val (.int x4), .val (.int x5), .val (.ref b2), .val (.int (x4 &&& (3 : Int32))), .val (.int y18), .val (.int ((x4 &&& (3 : Int32)) + y18)), .val (.int rr26)] [(.int rr26), (.int rr27)])
  by_cases h244 : rr27 = rr26
  · replace hv := (if_pos h244).symm.trans hv
    refine own_go (fun _ => XS.icmpNo X27.here hx rfl (hb hby at_244) rfl (XT.ii_ne_f h244)) ?_
    show own_WP p e below _ T27 (mkF m 247 #[.val (.long x0), .second, .val (.long x2), .second, .val (.int x4), .val (.int x5), .val (.ref b2), .val (.int (x4 &&& (3 : Int32))), .val (.int y18), .val (.int ((x4 &&& (3 : Int32)) + y18)), .val (.int rr26)] [])
    refine own_go (fun _ => XS.iconst X27.here hx rfl (hb hby at_247)) ?_
    show own_WP p e below _ T27 (mkF m 248 #[.val (.long x0), .second, .val (.long x2), .second, .val (.int x4), .val (.int x5), .val (.ref b2), .val (.int (x4 &&& (3 : Int32))), .val (.int y18), .val (.int ((x4 &&& (3 : Int32)) + y18)), .val (.int rr26)] [(.int (1 : Int32))])
    refine own_go (fun _ => XS.goto X27.here hx rfl (pc0 := 248) (pc' := 252) rfl (hb hby at_248) (by decide) (by decide)) ?_
    show own_WP p e below _ T27 (mkF m 252 #[.val (.long x0), .second, .val (.long x2), .second, .val (.int x4), .val (.int x5), .val (.ref b2), .val (.int (x4 &&& (3 : Int32))), .val (.int y18), .val (.int ((x4 &&& (3 : Int32)) + y18)), .val (.int rr26)] [(.int (1 : Int32))])
    obtain rfl := Option.some.inj hv
    exact own_retN X27 C (by simp) (hb hby at_252) (hP _ _ _ N K rfl) (by decide) (by decide)
  · replace hv := (if_neg h244).symm.trans hv
    refine own_go (fun _ => XS.icmpYes X27.here hx rfl (pc0 := 244) (pc' := 251) rfl (hb hby at_244) rfl (XT.ii_ne_t h244) (by decide) (by decide)) ?_
    show own_WP p e below _ T27 (mkF m 251 #[.val (.long x0), .second, .val (.long x2), .second, .val (.int x4), .val (.int x5), .val (.ref b2), .val (.int (x4 &&& (3 : Int32))), .val (.int y18), .val (.int ((x4 &&& (3 : Int32)) + y18)), .val (.int rr26)] [])
    refine own_go (fun _ => XS.iconst X27.here hx rfl (hb hby at_251)) ?_
    show own_WP p e below _ T27 (mkF m 252 #[.val (.long x0), .second, .val (.long x2), .second, .val (.int x4), .val (.int x5), .val (.ref b2), .val (.int (x4 &&& (3 : Int32))), .val (.int y18), .val (.int ((x4 &&& (3 : Int32)) + y18)), .val (.int rr26)] [(.int (0 : Int32))])
    obtain rfl := Option.some.inj hv
    exact own_retN X27 C (by simp) (hb hby at_252) (hP _ _ _ N K rfl) (by decide) (by decide)
def f0_0 (x0 : Int64) (x2 : Int64) (x4 : Int32) (x5 : Int32) : Option (Int32) := (f0_90 [((f1_0 x0 x2 (0 : Int32)).toInt8.toInt32), ((f1_0 x0 x2 (1 : Int32)).toInt8.toInt32), ((f1_0 x0 x2 (2 : Int32)).toInt8.toInt32), ((f1_0 x0 x2 (3 : Int32)).toInt8.toInt32), ((f1_0 x0 x2 (4 : Int32)).toInt8.toInt32), ((f1_0 x0 x2 (5 : Int32)).toInt8.toInt32), ((f1_0 x0 x2 (6 : Int32)).toInt8.toInt32), ((f1_0 x0 x2 (7 : Int32)).toInt8.toInt32)] x4 x5)
set_option maxRecDepth 65536 in
set_option maxHeartbeats 40000000 in
theorem b0_0 {p : Program} {l : Launch} {e : Env} {s : State} {m : MethodId} {args : Array Value} {below : List Frame} {meth : Method} {c : Code} {Z : State} {a0 : Array Value} {h0 : Heap} {n0 : Nat} {P : Option Value → Heap → List Loc → Prop} (hw : ∀ d ∈ tables_1, d.before a0 Z = true) (C : own_Ctx p s m meth c Z x code maxLocals ret) (Z0 : n0 ≤ h0.size)   (rr : Int32) (hP : ∀ v h L, Fr n0 L → Keep h0 h [] → E0 Z h0  rr v h → P v h L)
    {T : State} {locs : List Loc} {h : Heap} (X : Stand p l e room_1 s m args below meth c T locs 0 0) (e0 : T.heap = h) (N : Fr n0 locs) (K : Keep h0 h []) (x0 : Int64) (x2 : Int64) (x4 : Int32) (x5 : Int32) (hv : f0_0 x0 x2 x4 x5 = some rr) :
    own_WP p e below (own_Q s P room_1.cells room_1.slots) T (mkF m 0 #[.val (.long x0), .second, .val (.long x2), .second, .val (.int x4), .val (.int x5), .unset, .unset, .unset, .unset, .unset] []) := by
  obtain ⟨hx, hZ, hby, hml, hown, hnm, hret, hlk⟩ := id C
  replace hown : s.vm.findClass "com/example/loomcast/loomcast/SipMessageHeadEndPinLaw" = some m.cls := hown
  unfold f0_0 at hv
  show own_WP p e below _ T (mkF m 0 #[.val (.long x0), .second, .val (.long x2), .second, .val (.int x4), .val (.int x5), .unset, .unset, .unset, .unset, .unset] [])
  refine own_go (fun _ => XS.bipush X.here hx rfl (hb hby at_0)) ?_
  show own_WP p e below _ T (mkF m 2 #[.val (.long x0), .second, .val (.long x2), .second, .val (.int x4), .val (.int x5), .unset, .unset, .unset, .unset, .unset] [(.int (8 : Int32))])
  obtain ⟨T1, h1, b2, X1, e1, E1, hb_b2, V_b2, st1⟩ := own_newI X C e0 (aty := .byte) (ty := .byte) rfl rfl rfl (hw _ (List.mem_of_getElem? (i := 0) rfl)) (n := (8 : Int32)) (by decide) (cap := 8) (by decide) (by decide) (by decide) (by decide) (pc := 2) (Ls := #[.val (.long x0), .second, .val (.long x2), .second, .val (.int x4), .val (.int x5), .unset, .unset, .unset, .unset, .unset]) (rest := []) (hb hby at_2)
  refine own_go st1 ?_
  have g_b2 : n0 ≤ b2 := by have q := K.1; omega
  have z_b2 : h0.size ≤ b2 := by have q := K.1; omega
  replace K := K.ext E1
  replace V_b2 : own_AI Z h1 b2 .byte [0, 0, 0, 0, 0, 0, 0, 0] := V_b2
  show own_WP p e below _ T1 (mkF m 4 #[.val (.long x0), .second, .val (.long x2), .second, .val (.int x4), .val (.int x5), .unset, .unset, .unset, .unset, .unset] [(.ref b2)])
  refine own_go (fun _ => XS.astore X1.here hx rfl (hb hby at_4) rfl rfl (l' := #[.val (.long x0), .second, .val (.long x2), .second, .val (.int x4), .val (.int x5), .val (.ref b2), .unset, .unset, .unset, .unset]) rfl) ?_
  show own_WP p e below _ T1 (mkF m 6 #[.val (.long x0), .second, .val (.long x2), .second, .val (.int x4), .val (.int x5), .val (.ref b2), .unset, .unset, .unset, .unset] [])
  refine own_go (fun _ => XS.aload X1.here hx rfl (hb hby at_6) rfl rfl) ?_
  show own_WP p e below _ T1 (mkF m 8 #[.val (.long x0), .second, .val (.long x2), .second, .val (.int x4), .val (.int x5), .val (.ref b2), .unset, .unset, .unset, .unset] [(.ref b2)])
  refine own_go (fun _ => XS.iconst X1.here hx rfl (hb hby at_8)) ?_
  show own_WP p e below _ T1 (mkF m 9 #[.val (.long x0), .second, .val (.long x2), .second, .val (.int x4), .val (.int x5), .val (.ref b2), .unset, .unset, .unset, .unset] [(.int (0 : Int32)), (.ref b2)])
  refine own_go (fun _ => XS.lloadN X1.here hx rfl (hb hby at_9) rfl) ?_
  show own_WP p e below _ T1 (mkF m 10 #[.val (.long x0), .second, .val (.long x2), .second, .val (.int x4), .val (.int x5), .val (.ref b2), .unset, .unset, .unset, .unset] [(.long x0), (.int (0 : Int32)), (.ref b2)])
  refine own_go (fun _ => XS.lloadN X1.here hx rfl (hb hby at_10) rfl) ?_
  show own_WP p e below _ T1 (mkF m 11 #[.val (.long x0), .second, .val (.long x2), .second, .val (.int x4), .val (.int x5), .val (.ref b2), .unset, .unset, .unset, .unset] [(.long x2), (.long x0), (.int (0 : Int32)), (.ref b2)])
  refine own_go (fun _ => XS.iconst X1.here hx rfl (hb hby at_11)) ?_
  show own_WP p e below _ T1 (mkF m 12 #[.val (.long x0), .second, .val (.long x2), .second, .val (.int x4), .val (.int x5), .val (.ref b2), .unset, .unset, .unset, .unset] [(.int (0 : Int32)), (.long x2), (.long x0), (.int (0 : Int32)), (.ref b2)])
  obtain ⟨T2, v2, L2, X2, ⟨rfl, rfl, e2⟩, st2⟩ := own_callS X1 C (rm1 l Z a0 hw x0 x2 (0 : Int32) h1) (hw _ (List.mem_of_getElem? (i := 1) rfl)) (hw _ (List.mem_of_getElem? (i := 2) rfl)) (hw _ (List.mem_of_getElem? (i := 3) rfl)) (hw _ (List.mem_of_getElem? (i := 4) rfl)) (by decide) e1 (W := 2) (pc := 12) (Ls := #[.val (.long x0), .second, .val (.long x2), .second, .val (.int x4), .val (.int x5), .val (.ref b2), .unset, .unset, .unset, .unset]) rfl (lenOf pd1 rfl) (rest := [(.int (0 : Int32)), (.ref b2)]) (stk := [(.int (0 : Int32)), (.long x2), (.long x0), (.int (0 : Int32)), (.ref b2)]) rfl (Nat.le_of_ble_eq_true rfl) (hb hby at_12) (by decide) (by decide) (by decide) (by decide)
  rw [List.append_nil] at X2
  refine own_go st2 ?_
  show own_WP p e below _ T2 (mkF m 15 #[.val (.long x0), .second, .val (.long x2), .second, .val (.int x4), .val (.int x5), .val (.ref b2), .unset, .unset, .unset, .unset] [(.int (f1_0 x0 x2 (0 : Int32))), (.int (0 : Int32)), (.ref b2)])
  obtain ⟨T3, h3, X3, e3, W3, V'3, st3⟩ := own_bastore X2 C e2 V_b2 (vs' := [((f1_0 x0 x2 (0 : Int32)).toInt8.toInt32), 0, 0, 0, 0, 0, 0, 0]) (j := (0 : Int32)) (x := (f1_0 x0 x2 (0 : Int32))) rfl (hb hby at_15)
  refine own_go st3 ?_
  replace V_b2 := V'3
  clear V'3
  replace K := K.wr W3 (Or.inr (by omega))
  replace N := Fr.snoc X3 N (by omega)
  show own_WP p e below _ T3 (mkF m 16 #[.val (.long x0), .second, .val (.long x2), .second, .val (.int x4), .val (.int x5), .val (.ref b2), .unset, .unset, .unset, .unset] [])
  refine own_go (fun _ => XS.aload X3.here hx rfl (hb hby at_16) rfl rfl) ?_
  show own_WP p e below _ T3 (mkF m 18 #[.val (.long x0), .second, .val (.long x2), .second, .val (.int x4), .val (.int x5), .val (.ref b2), .unset, .unset, .unset, .unset] [(.ref b2)])
  refine own_go (fun _ => XS.iconst X3.here hx rfl (hb hby at_18)) ?_
  show own_WP p e below _ T3 (mkF m 19 #[.val (.long x0), .second, .val (.long x2), .second, .val (.int x4), .val (.int x5), .val (.ref b2), .unset, .unset, .unset, .unset] [(.int (1 : Int32)), (.ref b2)])
  refine own_go (fun _ => XS.lloadN X3.here hx rfl (hb hby at_19) rfl) ?_
  show own_WP p e below _ T3 (mkF m 20 #[.val (.long x0), .second, .val (.long x2), .second, .val (.int x4), .val (.int x5), .val (.ref b2), .unset, .unset, .unset, .unset] [(.long x0), (.int (1 : Int32)), (.ref b2)])
  refine own_go (fun _ => XS.lloadN X3.here hx rfl (hb hby at_20) rfl) ?_
  show own_WP p e below _ T3 (mkF m 21 #[.val (.long x0), .second, .val (.long x2), .second, .val (.int x4), .val (.int x5), .val (.ref b2), .unset, .unset, .unset, .unset] [(.long x2), (.long x0), (.int (1 : Int32)), (.ref b2)])
  refine own_go (fun _ => XS.iconst X3.here hx rfl (hb hby at_21)) ?_
  show own_WP p e below _ T3 (mkF m 22 #[.val (.long x0), .second, .val (.long x2), .second, .val (.int x4), .val (.int x5), .val (.ref b2), .unset, .unset, .unset, .unset] [(.int (1 : Int32)), (.long x2), (.long x0), (.int (1 : Int32)), (.ref b2)])
  obtain ⟨T4, v4, L4, X4, ⟨rfl, rfl, e4⟩, st4⟩ := own_callS X3 C (rm1 l Z a0 hw x0 x2 (1 : Int32) h3) (hw _ (List.mem_of_getElem? (i := 1) rfl)) (hw _ (List.mem_of_getElem? (i := 2) rfl)) (hw _ (List.mem_of_getElem? (i := 3) rfl)) (hw _ (List.mem_of_getElem? (i := 4) rfl)) (by decide) e3 (W := 2) (pc := 22) (Ls := #[.val (.long x0), .second, .val (.long x2), .second, .val (.int x4), .val (.int x5), .val (.ref b2), .unset, .unset, .unset, .unset]) rfl (lenOf pd1 rfl) (rest := [(.int (1 : Int32)), (.ref b2)]) (stk := [(.int (1 : Int32)), (.long x2), (.long x0), (.int (1 : Int32)), (.ref b2)]) rfl (Nat.le_of_ble_eq_true rfl) (hb hby at_22) (by decide) (by decide) (by decide) (by decide)
  rw [List.append_nil] at X4
  refine own_go st4 ?_
  show own_WP p e below _ T4 (mkF m 25 #[.val (.long x0), .second, .val (.long x2), .second, .val (.int x4), .val (.int x5), .val (.ref b2), .unset, .unset, .unset, .unset] [(.int (f1_0 x0 x2 (1 : Int32))), (.int (1 : Int32)), (.ref b2)])
  obtain ⟨T5, h5, X5, e5, W5, V'5, st5⟩ := own_bastore X4 C e4 V_b2 (vs' := [((f1_0 x0 x2 (0 : Int32)).toInt8.toInt32), ((f1_0 x0 x2 (1 : Int32)).toInt8.toInt32), 0, 0, 0, 0, 0, 0]) (j := (1 : Int32)) (x := (f1_0 x0 x2 (1 : Int32))) rfl (hb hby at_25)
  refine own_go st5 ?_
  replace V_b2 := V'5
  clear V'5
  replace K := K.wr W5 (Or.inr (by omega))
  replace N := Fr.snoc X5 N (by omega)
  show own_WP p e below _ T5 (mkF m 26 #[.val (.long x0), .second, .val (.long x2), .second, .val (.int x4), .val (.int x5), .val (.ref b2), .unset, .unset, .unset, .unset] [])
  refine own_go (fun _ => XS.aload X5.here hx rfl (hb hby at_26) rfl rfl) ?_
  show own_WP p e below _ T5 (mkF m 28 #[.val (.long x0), .second, .val (.long x2), .second, .val (.int x4), .val (.int x5), .val (.ref b2), .unset, .unset, .unset, .unset] [(.ref b2)])
  refine own_go (fun _ => XS.iconst X5.here hx rfl (hb hby at_28)) ?_
  show own_WP p e below _ T5 (mkF m 29 #[.val (.long x0), .second, .val (.long x2), .second, .val (.int x4), .val (.int x5), .val (.ref b2), .unset, .unset, .unset, .unset] [(.int (2 : Int32)), (.ref b2)])
  refine own_go (fun _ => XS.lloadN X5.here hx rfl (hb hby at_29) rfl) ?_
  show own_WP p e below _ T5 (mkF m 30 #[.val (.long x0), .second, .val (.long x2), .second, .val (.int x4), .val (.int x5), .val (.ref b2), .unset, .unset, .unset, .unset] [(.long x0), (.int (2 : Int32)), (.ref b2)])
  refine own_go (fun _ => XS.lloadN X5.here hx rfl (hb hby at_30) rfl) ?_
  show own_WP p e below _ T5 (mkF m 31 #[.val (.long x0), .second, .val (.long x2), .second, .val (.int x4), .val (.int x5), .val (.ref b2), .unset, .unset, .unset, .unset] [(.long x2), (.long x0), (.int (2 : Int32)), (.ref b2)])
  refine own_go (fun _ => XS.iconst X5.here hx rfl (hb hby at_31)) ?_
  show own_WP p e below _ T5 (mkF m 32 #[.val (.long x0), .second, .val (.long x2), .second, .val (.int x4), .val (.int x5), .val (.ref b2), .unset, .unset, .unset, .unset] [(.int (2 : Int32)), (.long x2), (.long x0), (.int (2 : Int32)), (.ref b2)])
  obtain ⟨T6, v6, L6, X6, ⟨rfl, rfl, e6⟩, st6⟩ := own_callS X5 C (rm1 l Z a0 hw x0 x2 (2 : Int32) h5) (hw _ (List.mem_of_getElem? (i := 1) rfl)) (hw _ (List.mem_of_getElem? (i := 2) rfl)) (hw _ (List.mem_of_getElem? (i := 3) rfl)) (hw _ (List.mem_of_getElem? (i := 4) rfl)) (by decide) e5 (W := 2) (pc := 32) (Ls := #[.val (.long x0), .second, .val (.long x2), .second, .val (.int x4), .val (.int x5), .val (.ref b2), .unset, .unset, .unset, .unset]) rfl (lenOf pd1 rfl) (rest := [(.int (2 : Int32)), (.ref b2)]) (stk := [(.int (2 : Int32)), (.long x2), (.long x0), (.int (2 : Int32)), (.ref b2)]) rfl (Nat.le_of_ble_eq_true rfl) (hb hby at_32) (by decide) (by decide) (by decide) (by decide)
  rw [List.append_nil] at X6
  refine own_go st6 ?_
  show own_WP p e below _ T6 (mkF m 35 #[.val (.long x0), .second, .val (.long x2), .second, .val (.int x4), .val (.int x5), .val (.ref b2), .unset, .unset, .unset, .unset] [(.int (f1_0 x0 x2 (2 : Int32))), (.int (2 : Int32)), (.ref b2)])
  obtain ⟨T7, h7, X7, e7, W7, V'7, st7⟩ := own_bastore X6 C e6 V_b2 (vs' := [((f1_0 x0 x2 (0 : Int32)).toInt8.toInt32), ((f1_0 x0 x2 (1 : Int32)).toInt8.toInt32), ((f1_0 x0 x2 (2 : Int32)).toInt8.toInt32), 0, 0, 0, 0, 0]) (j := (2 : Int32)) (x := (f1_0 x0 x2 (2 : Int32))) rfl (hb hby at_35)
  refine own_go st7 ?_
  replace V_b2 := V'7
  clear V'7
  replace K := K.wr W7 (Or.inr (by omega))
  replace N := Fr.snoc X7 N (by omega)
  show own_WP p e below _ T7 (mkF m 36 #[.val (.long x0), .second, .val (.long x2), .second, .val (.int x4), .val (.int x5), .val (.ref b2), .unset, .unset, .unset, .unset] [])
  refine own_go (fun _ => XS.aload X7.here hx rfl (hb hby at_36) rfl rfl) ?_
  show own_WP p e below _ T7 (mkF m 38 #[.val (.long x0), .second, .val (.long x2), .second, .val (.int x4), .val (.int x5), .val (.ref b2), .unset, .unset, .unset, .unset] [(.ref b2)])
  refine own_go (fun _ => XS.iconst X7.here hx rfl (hb hby at_38)) ?_
  show own_WP p e below _ T7 (mkF m 39 #[.val (.long x0), .second, .val (.long x2), .second, .val (.int x4), .val (.int x5), .val (.ref b2), .unset, .unset, .unset, .unset] [(.int (3 : Int32)), (.ref b2)])
  refine own_go (fun _ => XS.lloadN X7.here hx rfl (hb hby at_39) rfl) ?_
  show own_WP p e below _ T7 (mkF m 40 #[.val (.long x0), .second, .val (.long x2), .second, .val (.int x4), .val (.int x5), .val (.ref b2), .unset, .unset, .unset, .unset] [(.long x0), (.int (3 : Int32)), (.ref b2)])
  refine own_go (fun _ => XS.lloadN X7.here hx rfl (hb hby at_40) rfl) ?_
  show own_WP p e below _ T7 (mkF m 41 #[.val (.long x0), .second, .val (.long x2), .second, .val (.int x4), .val (.int x5), .val (.ref b2), .unset, .unset, .unset, .unset] [(.long x2), (.long x0), (.int (3 : Int32)), (.ref b2)])
  refine own_go (fun _ => XS.iconst X7.here hx rfl (hb hby at_41)) ?_
  show own_WP p e below _ T7 (mkF m 42 #[.val (.long x0), .second, .val (.long x2), .second, .val (.int x4), .val (.int x5), .val (.ref b2), .unset, .unset, .unset, .unset] [(.int (3 : Int32)), (.long x2), (.long x0), (.int (3 : Int32)), (.ref b2)])
  obtain ⟨T8, v8, L8, X8, ⟨rfl, rfl, e8⟩, st8⟩ := own_callS X7 C (rm1 l Z a0 hw x0 x2 (3 : Int32) h7) (hw _ (List.mem_of_getElem? (i := 1) rfl)) (hw _ (List.mem_of_getElem? (i := 2) rfl)) (hw _ (List.mem_of_getElem? (i := 3) rfl)) (hw _ (List.mem_of_getElem? (i := 4) rfl)) (by decide) e7 (W := 2) (pc := 42) (Ls := #[.val (.long x0), .second, .val (.long x2), .second, .val (.int x4), .val (.int x5), .val (.ref b2), .unset, .unset, .unset, .unset]) rfl (lenOf pd1 rfl) (rest := [(.int (3 : Int32)), (.ref b2)]) (stk := [(.int (3 : Int32)), (.long x2), (.long x0), (.int (3 : Int32)), (.ref b2)]) rfl (Nat.le_of_ble_eq_true rfl) (hb hby at_42) (by decide) (by decide) (by decide) (by decide)
  rw [List.append_nil] at X8
  refine own_go st8 ?_
  show own_WP p e below _ T8 (mkF m 45 #[.val (.long x0), .second, .val (.long x2), .second, .val (.int x4), .val (.int x5), .val (.ref b2), .unset, .unset, .unset, .unset] [(.int (f1_0 x0 x2 (3 : Int32))), (.int (3 : Int32)), (.ref b2)])
  obtain ⟨T9, h9, X9, e9, W9, V'9, st9⟩ := own_bastore X8 C e8 V_b2 (vs' := [((f1_0 x0 x2 (0 : Int32)).toInt8.toInt32), ((f1_0 x0 x2 (1 : Int32)).toInt8.toInt32), ((f1_0 x0 x2 (2 : Int32)).toInt8.toInt32), ((f1_0 x0 x2 (3 : Int32)).toInt8.toInt32), 0, 0, 0, 0]) (j := (3 : Int32)) (x := (f1_0 x0 x2 (3 : Int32))) rfl (hb hby at_45)
  refine own_go st9 ?_
  replace V_b2 := V'9
  clear V'9
  replace K := K.wr W9 (Or.inr (by omega))
  replace N := Fr.snoc X9 N (by omega)
  show own_WP p e below _ T9 (mkF m 46 #[.val (.long x0), .second, .val (.long x2), .second, .val (.int x4), .val (.int x5), .val (.ref b2), .unset, .unset, .unset, .unset] [])
  refine own_go (fun _ => XS.aload X9.here hx rfl (hb hby at_46) rfl rfl) ?_
  show own_WP p e below _ T9 (mkF m 48 #[.val (.long x0), .second, .val (.long x2), .second, .val (.int x4), .val (.int x5), .val (.ref b2), .unset, .unset, .unset, .unset] [(.ref b2)])
  refine own_go (fun _ => XS.iconst X9.here hx rfl (hb hby at_48)) ?_
  show own_WP p e below _ T9 (mkF m 49 #[.val (.long x0), .second, .val (.long x2), .second, .val (.int x4), .val (.int x5), .val (.ref b2), .unset, .unset, .unset, .unset] [(.int (4 : Int32)), (.ref b2)])
  refine own_go (fun _ => XS.lloadN X9.here hx rfl (hb hby at_49) rfl) ?_
  show own_WP p e below _ T9 (mkF m 50 #[.val (.long x0), .second, .val (.long x2), .second, .val (.int x4), .val (.int x5), .val (.ref b2), .unset, .unset, .unset, .unset] [(.long x0), (.int (4 : Int32)), (.ref b2)])
  refine own_go (fun _ => XS.lloadN X9.here hx rfl (hb hby at_50) rfl) ?_
  show own_WP p e below _ T9 (mkF m 51 #[.val (.long x0), .second, .val (.long x2), .second, .val (.int x4), .val (.int x5), .val (.ref b2), .unset, .unset, .unset, .unset] [(.long x2), (.long x0), (.int (4 : Int32)), (.ref b2)])
  refine own_go (fun _ => XS.iconst X9.here hx rfl (hb hby at_51)) ?_
  show own_WP p e below _ T9 (mkF m 52 #[.val (.long x0), .second, .val (.long x2), .second, .val (.int x4), .val (.int x5), .val (.ref b2), .unset, .unset, .unset, .unset] [(.int (4 : Int32)), (.long x2), (.long x0), (.int (4 : Int32)), (.ref b2)])
  obtain ⟨T10, v10, L10, X10, ⟨rfl, rfl, e10⟩, st10⟩ := own_callS X9 C (rm1 l Z a0 hw x0 x2 (4 : Int32) h9) (hw _ (List.mem_of_getElem? (i := 1) rfl)) (hw _ (List.mem_of_getElem? (i := 2) rfl)) (hw _ (List.mem_of_getElem? (i := 3) rfl)) (hw _ (List.mem_of_getElem? (i := 4) rfl)) (by decide) e9 (W := 2) (pc := 52) (Ls := #[.val (.long x0), .second, .val (.long x2), .second, .val (.int x4), .val (.int x5), .val (.ref b2), .unset, .unset, .unset, .unset]) rfl (lenOf pd1 rfl) (rest := [(.int (4 : Int32)), (.ref b2)]) (stk := [(.int (4 : Int32)), (.long x2), (.long x0), (.int (4 : Int32)), (.ref b2)]) rfl (Nat.le_of_ble_eq_true rfl) (hb hby at_52) (by decide) (by decide) (by decide) (by decide)
  rw [List.append_nil] at X10
  refine own_go st10 ?_
  show own_WP p e below _ T10 (mkF m 55 #[.val (.long x0), .second, .val (.long x2), .second, .val (.int x4), .val (.int x5), .val (.ref b2), .unset, .unset, .unset, .unset] [(.int (f1_0 x0 x2 (4 : Int32))), (.int (4 : Int32)), (.ref b2)])
  obtain ⟨T11, h11, X11, e11, W11, V'11, st11⟩ := own_bastore X10 C e10 V_b2 (vs' := [((f1_0 x0 x2 (0 : Int32)).toInt8.toInt32), ((f1_0 x0 x2 (1 : Int32)).toInt8.toInt32), ((f1_0 x0 x2 (2 : Int32)).toInt8.toInt32), ((f1_0 x0 x2 (3 : Int32)).toInt8.toInt32), ((f1_0 x0 x2 (4 : Int32)).toInt8.toInt32), 0, 0, 0]) (j := (4 : Int32)) (x := (f1_0 x0 x2 (4 : Int32))) rfl (hb hby at_55)
  refine own_go st11 ?_
  replace V_b2 := V'11
  clear V'11
  replace K := K.wr W11 (Or.inr (by omega))
  replace N := Fr.snoc X11 N (by omega)
  show own_WP p e below _ T11 (mkF m 56 #[.val (.long x0), .second, .val (.long x2), .second, .val (.int x4), .val (.int x5), .val (.ref b2), .unset, .unset, .unset, .unset] [])
  refine own_go (fun _ => XS.aload X11.here hx rfl (hb hby at_56) rfl rfl) ?_
  show own_WP p e below _ T11 (mkF m 58 #[.val (.long x0), .second, .val (.long x2), .second, .val (.int x4), .val (.int x5), .val (.ref b2), .unset, .unset, .unset, .unset] [(.ref b2)])
  refine own_go (fun _ => XS.iconst X11.here hx rfl (hb hby at_58)) ?_
  show own_WP p e below _ T11 (mkF m 59 #[.val (.long x0), .second, .val (.long x2), .second, .val (.int x4), .val (.int x5), .val (.ref b2), .unset, .unset, .unset, .unset] [(.int (5 : Int32)), (.ref b2)])
  refine own_go (fun _ => XS.lloadN X11.here hx rfl (hb hby at_59) rfl) ?_
  show own_WP p e below _ T11 (mkF m 60 #[.val (.long x0), .second, .val (.long x2), .second, .val (.int x4), .val (.int x5), .val (.ref b2), .unset, .unset, .unset, .unset] [(.long x0), (.int (5 : Int32)), (.ref b2)])
  refine own_go (fun _ => XS.lloadN X11.here hx rfl (hb hby at_60) rfl) ?_
  show own_WP p e below _ T11 (mkF m 61 #[.val (.long x0), .second, .val (.long x2), .second, .val (.int x4), .val (.int x5), .val (.ref b2), .unset, .unset, .unset, .unset] [(.long x2), (.long x0), (.int (5 : Int32)), (.ref b2)])
  refine own_go (fun _ => XS.iconst X11.here hx rfl (hb hby at_61)) ?_
  show own_WP p e below _ T11 (mkF m 62 #[.val (.long x0), .second, .val (.long x2), .second, .val (.int x4), .val (.int x5), .val (.ref b2), .unset, .unset, .unset, .unset] [(.int (5 : Int32)), (.long x2), (.long x0), (.int (5 : Int32)), (.ref b2)])
  obtain ⟨T12, v12, L12, X12, ⟨rfl, rfl, e12⟩, st12⟩ := own_callS X11 C (rm1 l Z a0 hw x0 x2 (5 : Int32) h11) (hw _ (List.mem_of_getElem? (i := 1) rfl)) (hw _ (List.mem_of_getElem? (i := 2) rfl)) (hw _ (List.mem_of_getElem? (i := 3) rfl)) (hw _ (List.mem_of_getElem? (i := 4) rfl)) (by decide) e11 (W := 2) (pc := 62) (Ls := #[.val (.long x0), .second, .val (.long x2), .second, .val (.int x4), .val (.int x5), .val (.ref b2), .unset, .unset, .unset, .unset]) rfl (lenOf pd1 rfl) (rest := [(.int (5 : Int32)), (.ref b2)]) (stk := [(.int (5 : Int32)), (.long x2), (.long x0), (.int (5 : Int32)), (.ref b2)]) rfl (Nat.le_of_ble_eq_true rfl) (hb hby at_62) (by decide) (by decide) (by decide) (by decide)
  rw [List.append_nil] at X12
  refine own_go st12 ?_
  show own_WP p e below _ T12 (mkF m 65 #[.val (.long x0), .second, .val (.long x2), .second, .val (.int x4), .val (.int x5), .val (.ref b2), .unset, .unset, .unset, .unset] [(.int (f1_0 x0 x2 (5 : Int32))), (.int (5 : Int32)), (.ref b2)])
  obtain ⟨T13, h13, X13, e13, W13, V'13, st13⟩ := own_bastore X12 C e12 V_b2 (vs' := [((f1_0 x0 x2 (0 : Int32)).toInt8.toInt32), ((f1_0 x0 x2 (1 : Int32)).toInt8.toInt32), ((f1_0 x0 x2 (2 : Int32)).toInt8.toInt32), ((f1_0 x0 x2 (3 : Int32)).toInt8.toInt32), ((f1_0 x0 x2 (4 : Int32)).toInt8.toInt32), ((f1_0 x0 x2 (5 : Int32)).toInt8.toInt32), 0, 0]) (j := (5 : Int32)) (x := (f1_0 x0 x2 (5 : Int32))) rfl (hb hby at_65)
  refine own_go st13 ?_
  replace V_b2 := V'13
  clear V'13
  replace K := K.wr W13 (Or.inr (by omega))
  replace N := Fr.snoc X13 N (by omega)
  show own_WP p e below _ T13 (mkF m 66 #[.val (.long x0), .second, .val (.long x2), .second, .val (.int x4), .val (.int x5), .val (.ref b2), .unset, .unset, .unset, .unset] [])
  refine own_go (fun _ => XS.aload X13.here hx rfl (hb hby at_66) rfl rfl) ?_
  show own_WP p e below _ T13 (mkF m 68 #[.val (.long x0), .second, .val (.long x2), .second, .val (.int x4), .val (.int x5), .val (.ref b2), .unset, .unset, .unset, .unset] [(.ref b2)])
  refine own_go (fun _ => XS.bipush X13.here hx rfl (hb hby at_68)) ?_
  show own_WP p e below _ T13 (mkF m 70 #[.val (.long x0), .second, .val (.long x2), .second, .val (.int x4), .val (.int x5), .val (.ref b2), .unset, .unset, .unset, .unset] [(.int (6 : Int32)), (.ref b2)])
  refine own_go (fun _ => XS.lloadN X13.here hx rfl (hb hby at_70) rfl) ?_
  show own_WP p e below _ T13 (mkF m 71 #[.val (.long x0), .second, .val (.long x2), .second, .val (.int x4), .val (.int x5), .val (.ref b2), .unset, .unset, .unset, .unset] [(.long x0), (.int (6 : Int32)), (.ref b2)])
  refine own_go (fun _ => XS.lloadN X13.here hx rfl (hb hby at_71) rfl) ?_
  show own_WP p e below _ T13 (mkF m 72 #[.val (.long x0), .second, .val (.long x2), .second, .val (.int x4), .val (.int x5), .val (.ref b2), .unset, .unset, .unset, .unset] [(.long x2), (.long x0), (.int (6 : Int32)), (.ref b2)])
  refine own_go (fun _ => XS.bipush X13.here hx rfl (hb hby at_72)) ?_
  show own_WP p e below _ T13 (mkF m 74 #[.val (.long x0), .second, .val (.long x2), .second, .val (.int x4), .val (.int x5), .val (.ref b2), .unset, .unset, .unset, .unset] [(.int (6 : Int32)), (.long x2), (.long x0), (.int (6 : Int32)), (.ref b2)])
  obtain ⟨T14, v14, L14, X14, ⟨rfl, rfl, e14⟩, st14⟩ := own_callS X13 C (rm1 l Z a0 hw x0 x2 (6 : Int32) h13) (hw _ (List.mem_of_getElem? (i := 1) rfl)) (hw _ (List.mem_of_getElem? (i := 2) rfl)) (hw _ (List.mem_of_getElem? (i := 3) rfl)) (hw _ (List.mem_of_getElem? (i := 4) rfl)) (by decide) e13 (W := 2) (pc := 74) (Ls := #[.val (.long x0), .second, .val (.long x2), .second, .val (.int x4), .val (.int x5), .val (.ref b2), .unset, .unset, .unset, .unset]) rfl (lenOf pd1 rfl) (rest := [(.int (6 : Int32)), (.ref b2)]) (stk := [(.int (6 : Int32)), (.long x2), (.long x0), (.int (6 : Int32)), (.ref b2)]) rfl (Nat.le_of_ble_eq_true rfl) (hb hby at_74) (by decide) (by decide) (by decide) (by decide)
  rw [List.append_nil] at X14
  refine own_go st14 ?_
  show own_WP p e below _ T14 (mkF m 77 #[.val (.long x0), .second, .val (.long x2), .second, .val (.int x4), .val (.int x5), .val (.ref b2), .unset, .unset, .unset, .unset] [(.int (f1_0 x0 x2 (6 : Int32))), (.int (6 : Int32)), (.ref b2)])
  obtain ⟨T15, h15, X15, e15, W15, V'15, st15⟩ := own_bastore X14 C e14 V_b2 (vs' := [((f1_0 x0 x2 (0 : Int32)).toInt8.toInt32), ((f1_0 x0 x2 (1 : Int32)).toInt8.toInt32), ((f1_0 x0 x2 (2 : Int32)).toInt8.toInt32), ((f1_0 x0 x2 (3 : Int32)).toInt8.toInt32), ((f1_0 x0 x2 (4 : Int32)).toInt8.toInt32), ((f1_0 x0 x2 (5 : Int32)).toInt8.toInt32), ((f1_0 x0 x2 (6 : Int32)).toInt8.toInt32), 0]) (j := (6 : Int32)) (x := (f1_0 x0 x2 (6 : Int32))) rfl (hb hby at_77)
  refine own_go st15 ?_
  replace V_b2 := V'15
  clear V'15
  replace K := K.wr W15 (Or.inr (by omega))
  replace N := Fr.snoc X15 N (by omega)
  show own_WP p e below _ T15 (mkF m 78 #[.val (.long x0), .second, .val (.long x2), .second, .val (.int x4), .val (.int x5), .val (.ref b2), .unset, .unset, .unset, .unset] [])
  refine own_go (fun _ => XS.aload X15.here hx rfl (hb hby at_78) rfl rfl) ?_
  show own_WP p e below _ T15 (mkF m 80 #[.val (.long x0), .second, .val (.long x2), .second, .val (.int x4), .val (.int x5), .val (.ref b2), .unset, .unset, .unset, .unset] [(.ref b2)])
  refine own_go (fun _ => XS.bipush X15.here hx rfl (hb hby at_80)) ?_
  show own_WP p e below _ T15 (mkF m 82 #[.val (.long x0), .second, .val (.long x2), .second, .val (.int x4), .val (.int x5), .val (.ref b2), .unset, .unset, .unset, .unset] [(.int (7 : Int32)), (.ref b2)])
  refine own_go (fun _ => XS.lloadN X15.here hx rfl (hb hby at_82) rfl) ?_
  show own_WP p e below _ T15 (mkF m 83 #[.val (.long x0), .second, .val (.long x2), .second, .val (.int x4), .val (.int x5), .val (.ref b2), .unset, .unset, .unset, .unset] [(.long x0), (.int (7 : Int32)), (.ref b2)])
  refine own_go (fun _ => XS.lloadN X15.here hx rfl (hb hby at_83) rfl) ?_
  show own_WP p e below _ T15 (mkF m 84 #[.val (.long x0), .second, .val (.long x2), .second, .val (.int x4), .val (.int x5), .val (.ref b2), .unset, .unset, .unset, .unset] [(.long x2), (.long x0), (.int (7 : Int32)), (.ref b2)])
  refine own_go (fun _ => XS.bipush X15.here hx rfl (hb hby at_84)) ?_
  show own_WP p e below _ T15 (mkF m 86 #[.val (.long x0), .second, .val (.long x2), .second, .val (.int x4), .val (.int x5), .val (.ref b2), .unset, .unset, .unset, .unset] [(.int (7 : Int32)), (.long x2), (.long x0), (.int (7 : Int32)), (.ref b2)])
  obtain ⟨T16, v16, L16, X16, ⟨rfl, rfl, e16⟩, st16⟩ := own_callS X15 C (rm1 l Z a0 hw x0 x2 (7 : Int32) h15) (hw _ (List.mem_of_getElem? (i := 1) rfl)) (hw _ (List.mem_of_getElem? (i := 2) rfl)) (hw _ (List.mem_of_getElem? (i := 3) rfl)) (hw _ (List.mem_of_getElem? (i := 4) rfl)) (by decide) e15 (W := 2) (pc := 86) (Ls := #[.val (.long x0), .second, .val (.long x2), .second, .val (.int x4), .val (.int x5), .val (.ref b2), .unset, .unset, .unset, .unset]) rfl (lenOf pd1 rfl) (rest := [(.int (7 : Int32)), (.ref b2)]) (stk := [(.int (7 : Int32)), (.long x2), (.long x0), (.int (7 : Int32)), (.ref b2)]) rfl (Nat.le_of_ble_eq_true rfl) (hb hby at_86) (by decide) (by decide) (by decide) (by decide)
  rw [List.append_nil] at X16
  refine own_go st16 ?_
  show own_WP p e below _ T16 (mkF m 89 #[.val (.long x0), .second, .val (.long x2), .second, .val (.int x4), .val (.int x5), .val (.ref b2), .unset, .unset, .unset, .unset] [(.int (f1_0 x0 x2 (7 : Int32))), (.int (7 : Int32)), (.ref b2)])
  obtain ⟨T17, h17, X17, e17, W17, V'17, st17⟩ := own_bastore X16 C e16 V_b2 (vs' := [((f1_0 x0 x2 (0 : Int32)).toInt8.toInt32), ((f1_0 x0 x2 (1 : Int32)).toInt8.toInt32), ((f1_0 x0 x2 (2 : Int32)).toInt8.toInt32), ((f1_0 x0 x2 (3 : Int32)).toInt8.toInt32), ((f1_0 x0 x2 (4 : Int32)).toInt8.toInt32), ((f1_0 x0 x2 (5 : Int32)).toInt8.toInt32), ((f1_0 x0 x2 (6 : Int32)).toInt8.toInt32), ((f1_0 x0 x2 (7 : Int32)).toInt8.toInt32)]) (j := (7 : Int32)) (x := (f1_0 x0 x2 (7 : Int32))) rfl (hb hby at_89)
  refine own_go st17 ?_
  replace V_b2 := V'17
  clear V'17
  replace K := K.wr W17 (Or.inr (by omega))
  replace N := Fr.snoc X17 N (by omega)
  exact b0_90 hw C Z0 rr hP X17 e17 N K g_b2 z_b2 V_b2 x0 x2 x4 x5 hv
theorem ef0 (m : MethodId) (x0 : Int64) (x2 : Int64) (x4 : Int32) (x5 : Int32) : entryFrame m #[(.long x0), (.long x2), (.int x4), (.int x5)] maxLocals = (mkF m 0 #[.val (.long x0), .second, .val (.long x2), .second, .val (.int x4), .val (.int x5), .unset, .unset, .unset, .unset, .unset] []) := by first | (simp [entryFrame, mkF, argsToLocals, Value.category, maxLocals]; done) | rfl
theorem pn0 : plainFor x = true := plainFor_of_name (by first | (simp [plainName, overriddenIn, x]; done) | decide +kernel)
theorem own_ti (n : Nat) (h : n < 100) : (Int32.ofNat n).toInt = n := Int32.toInt_ofNat_of_lt (by show n < 2 ^ 31; omega)
def own_at (v : List Int32) (i : Nat) : Int32 := v.getD i 0
theorem own_getn (v : List Int32) (i : Nat) (h : i < v.length) (hl : v.length < 100) : own_get v (Int32.ofNat i) = some (own_at v i) := by
  unfold own_get
  have e : (Int32.ofNat i).toNatClampNeg = i := by
    show (Int32.ofNat i).toInt.toNat = i
    rw [own_ti i (by omega)]; rfl
  rw [if_neg, e]
  · unfold own_at
    rw [List.getElem?_eq_getElem h]
    simp [h]
  · rw [Int32.lt_iff_toInt_lt, own_ti i (by omega)]
    show ¬ ((i : Int) < 0)
    omega
theorem own_sub (i k : Nat) (h : k ≤ i) (hi : i < 100) : Int32.ofNat i - Int32.ofNat k = Int32.ofNat (i - k) := by
  apply Int32.toInt_inj.mp
  have a := c_isub (Int32.ofNat i) (Int32.ofNat k)
  have r := rng32 (Int32.ofNat i - Int32.ofNat k)
  rw [own_ti i hi, own_ti k (by omega)] at a
  rw [own_ti (i - k) (by omega)]
  omega
theorem own_subLt (i k o : Nat) (hi : i < 100) (hk : k < 100) (ho : o < 100) : Int32.ofNat i - Int32.ofNat k < Int32.ofNat o ↔ i < o + k := by
  have a := c_isub (Int32.ofNat i) (Int32.ofNat k)
  have r := rng32 (Int32.ofNat i - Int32.ofNat k)
  rw [own_ti i hi, own_ti k hk] at a
  rw [Int32.lt_iff_toInt_lt, own_ti o ho]
  omega
theorem own_lt (i j : Nat) (hi : i < 100) (hj : j < 100) : Int32.ofNat i < Int32.ofNat j ↔ i < j := by
  rw [Int32.lt_iff_toInt_lt, own_ti i hi, own_ti j hj]; omega
theorem own_eq (i j : Nat) (hi : i < 100) (hj : j < 100) : Int32.ofNat i = Int32.ofNat j ↔ i = j := by
  rw [← Int32.toInt_inj, own_ti i hi, own_ti j hj]; omega
theorem own_add (i j : Nat) : Int32.ofNat i + Int32.ofNat j = Int32.ofNat (i + j) := (Int32.ofNat_add i j).symm
/-- the line that ends at i is empty -/
def own_E (v : List Int32) (o i : Nat) : Bool := decide (own_at v i = 10 ∧ ((o + 1 ≤ i ∧ own_at v (i - 1) = 10) ∨ (o + 2 ≤ i ∧ own_at v (i - 1) = 13 ∧ own_at v (i - 2) = 10)))
theorem own_ends (v : List Int32) (o i : Nat) (hi : i < v.length) (hl : v.length < 100) (ho : o < 100) : f3_0 v (Int32.ofNat o) (Int32.ofNat i) = some (if own_E v o i = true then 1 else 0) := by
  unfold f3_0 f3_29
  rw [own_getn v i hi hl]
  simp only [Option.bind_some]
  have c1 : (Int32.ofNat i - (1 : Int32) < Int32.ofNat o) ↔ i < o + 1 := own_subLt i 1 o (by omega) (by decide) ho
  have c2 : (Int32.ofNat i - (2 : Int32) < Int32.ofNat o) ↔ i < o + 2 := own_subLt i 2 o (by omega) (by decide) ho
  by_cases h10 : own_at v i = 10
  · rw [if_pos h10]
    by_cases g1 : i < o + 1
    · rw [if_pos (c1.mpr g1), if_pos (c2.mpr (by omega))]
      have e : own_E v o i = false := by
        unfold own_E
        apply decide_eq_false
        rintro ⟨-, ⟨q, -⟩ | ⟨q, -⟩⟩ <;> omega
      rw [e]; rfl
    · rw [if_neg (fun q => g1 (c1.mp q))]
      have s1 : Int32.ofNat i - (1 : Int32) = Int32.ofNat (i - 1) := own_sub i 1 (by omega) (by omega)
      rw [s1, own_getn v (i - 1) (by omega) hl]
      simp only [Option.bind_some]
      by_cases k1 : own_at v (i - 1) = 10
      · rw [if_pos k1]
        have e : own_E v o i = true := by
          unfold own_E
          exact decide_eq_true ⟨h10, Or.inl ⟨by omega, k1⟩⟩
        rw [e]; rfl
      · rw [if_neg k1]
        by_cases g2 : i < o + 2
        · rw [if_pos (c2.mpr g2)]
          have e : own_E v o i = false := by
            unfold own_E
            apply decide_eq_false
            rintro ⟨-, ⟨-, q⟩ | ⟨q, -⟩⟩
            · exact k1 q
            · omega
          rw [e]; rfl
        · rw [if_neg (fun q => g2 (c2.mp q))]
          have s2 : Int32.ofNat i - (2 : Int32) = Int32.ofNat (i - 2) := own_sub i 2 (by omega) (by omega)
          by_cases k2 : own_at v (i - 1) = 13
          · rw [if_pos k2, s2, own_getn v (i - 2) (by omega) hl]
            simp only [Option.bind_some]
            by_cases k3 : own_at v (i - 2) = 10
            · rw [if_pos k3]
              have e : own_E v o i = true := by
                unfold own_E
                exact decide_eq_true ⟨h10, Or.inr ⟨by omega, k2, k3⟩⟩
              rw [e]; rfl
            · rw [if_neg k3]
              have e : own_E v o i = false := by
                unfold own_E
                apply decide_eq_false
                rintro ⟨-, ⟨-, q⟩ | ⟨-, -, q⟩⟩
                · exact k1 q
                · exact k3 q
              rw [e]; rfl
          · rw [if_neg k2]
            have e : own_E v o i = false := by
              unfold own_E
              apply decide_eq_false
              rintro ⟨-, ⟨-, q⟩ | ⟨-, q, -⟩⟩
              · exact k1 q
              · exact k2 q
            rw [e]; rfl
  · rw [if_neg h10]
    have e : own_E v o i = false := by
      unfold own_E
      apply decide_eq_false
      rintro ⟨q, -⟩
      exact h10 q
    rw [e]; rfl
def own_P (v : List Int32) (o e i : Nat) : Bool := decide (o ≤ i) && decide (i < e) && own_E v o i
theorem own_step (v : List Int32) (o e i : Nat) (later : Int32) (hi : i < v.length) (hl : v.length < 100) (ho : o < 100) (he : e < 100) : f2_0 v (Int32.ofNat o) (Int32.ofNat e) (Int32.ofNat i) later = some (if own_P v o e i = true then Int32.ofNat (i + 1) else later) := by
  unfold f2_0 own_P
  by_cases h1 : i < o
  · rw [if_pos ((own_lt i o (by omega) ho).mpr h1)]
    have q : decide (o ≤ i) = false := decide_eq_false (by omega)
    rw [q]; rfl
  · rw [if_neg (fun q => h1 ((own_lt i o (by omega) ho).mp q))]
    have q : decide (o ≤ i) = true := decide_eq_true (by omega)
    by_cases h2 : i < e
    · rw [if_pos ((own_lt i e (by omega) he).mpr h2), own_ends v o i hi hl ho]
      have q2 : decide (i < e) = true := decide_eq_true h2
      rw [q, q2]
      simp only [Option.bind_some, Bool.true_and]
      cases own_E v o i with
      | true => rw [if_pos rfl, if_neg (by decide)]; rw [if_pos rfl]; exact congrArg some (own_add i 1)
      | false => simp
    · rw [if_neg (fun q => h2 ((own_lt i e (by omega) he).mp q))]
      have q2 : decide (i < e) = false := decide_eq_false h2
      rw [q, q2]; rfl
/-- the first i from k places ahead of 8 on that ends the head -/
def own_G (v : List Int32) (o e : Nat) : Nat → Nat → Int32
  | 0, _ => -1
  | k + 1, i => if own_P v o e i = true then Int32.ofNat (i + 1) else own_G v o e k (i + 1)
theorem own_Gend (v : List Int32) (o e : Nat) : ∀ k i, e ≤ i → own_G v o e k i = -1
  | 0, _, _ => rfl
  | k + 1, i, h => by
    unfold own_G
    have q2 : decide (i < e) = false := decide_eq_false (by omega)
    have q : own_P v o e i = false := by unfold own_P; rw [q2]; simp
    rw [q, own_Gend v o e k (i + 1) (by omega)]; rfl
theorem own_Gskip (v : List Int32) (o e k i : Nat) (h : own_P v o e i = false) : own_G v o e (k + 1) i = own_G v o e k (i + 1) := by
  show (if own_P v o e i = true then _ else _) = _
  rw [h]; rfl
theorem own_Ghit (v : List Int32) (o e k i : Nat) (h : own_P v o e i = true) : own_G v o e (k + 1) i = Int32.ofNat (i + 1) := by
  show (if own_P v o e i = true then _ else _) = _
  rw [h]; rfl
theorem own_Pof (v : List Int32) (o e i : Nat) (h1 : o ≤ i) (h2 : i < e) : own_P v o e i = own_E v o i := by
  unfold own_P
  rw [decide_eq_true h1, decide_eq_true h2]; rfl
theorem own_loop (v : List Int32) (o n : Nat) (hl : v.length = 8) (hn : o + n ≤ 8) : ∀ (k i s fuel : Nat), i + k = 8 → 9 ≤ i + fuel → o ≤ s → s ≤ i → i ≤ o + n → (o < s → own_at v (s - 1) = 10) → (∀ j, s ≤ j → j < i → ¬ own_at v j = 10) →
    f4_5 fuel v (Int32.ofNat o) (Int32.ofNat n) (Int32.ofNat s) (Int32.ofNat i) = some (own_G v o (o + n) k i) := by
  intro k
  induction k with
  | zero =>
    intro i s fuel h1 h2 h3 h4 h5 h6 h7
    cases fuel with
    | zero => omega
    | succ f =>
      unfold f4_5
      rw [own_add o n, if_neg (fun q => absurd ((own_lt i (o + n) (by omega) (by omega)).mp q) (by omega))]
      rfl
  | succ k ih =>
    intro i s fuel h1 h2 h3 h4 h5 h6 h7
    cases fuel with
    | zero => omega
    | succ f =>
      unfold f4_5
      rw [own_add o n]
      by_cases hin : i < o + n
      · rw [if_pos ((own_lt i (o + n) (by omega) (by omega)).mpr hin), own_getn v i (by omega) (by omega)]
        simp only [Option.bind_some]
        have a1 : Int32.ofNat i + (1 : Int32) = Int32.ofNat (i + 1) := own_add i 1
        have a2 : Int32.ofNat s + (1 : Int32) = Int32.ofNat (s + 1) := own_add s 1
        have fresh : own_at v i = 10 → own_E v o i = false → f4_5 f v (Int32.ofNat o) (Int32.ofNat n) (Int32.ofNat i + (1 : Int32)) (Int32.ofNat i + (1 : Int32)) = some (own_G v o (o + n) (k + 1) i) := by
          intro h10 hE
          rw [a1, own_Gskip v o (o + n) k i (by rw [own_Pof v o (o + n) i (by omega) hin]; exact hE)]
          exact ih (i + 1) (i + 1) f (by omega) (by omega) (by omega) (by omega) (by omega) (fun _ => h10) (fun j q1 q2 => by omega)
        by_cases h10 : own_at v i = 10
        · rw [if_pos h10]
          by_cases his : i = s
          · rw [if_pos ((own_eq i s (by omega) (by omega)).mpr his)]
            by_cases hos : o < s
            · rw [if_pos ((own_lt o s (by omega) (by omega)).mpr hos)]
              have hE : own_E v o i = true := by
                unfold own_E
                refine decide_eq_true ⟨h10, Or.inl ⟨by omega, ?_⟩⟩
                rw [his]; exact h6 hos
              rw [own_Ghit v o (o + n) k i (by rw [own_Pof v o (o + n) i (by omega) hin]; exact hE), a1]
            · rw [if_neg (fun q => hos ((own_lt o s (by omega) (by omega)).mp q))]
              refine fresh h10 ?_
              unfold own_E
              apply decide_eq_false
              rintro ⟨-, ⟨q, -⟩ | ⟨q, -⟩⟩ <;> omega
          · rw [if_neg (fun q => his ((own_eq i s (by omega) (by omega)).mp q)), a2]
            by_cases his1 : i = s + 1
            · rw [if_pos ((own_eq i (s + 1) (by omega) (by omega)).mpr his1), own_getn v s (by omega) (by omega)]
              simp only [Option.bind_some]
              have e1 : i - 1 = s := by omega
              have n10 : ¬ own_at v s = 10 := h7 s (by omega) (by omega)
              by_cases h13 : own_at v s = 13
              · rw [if_pos h13]
                by_cases hos : o < s
                · rw [if_pos ((own_lt o s (by omega) (by omega)).mpr hos)]
                  have hE : own_E v o i = true := by
                    unfold own_E
                    refine decide_eq_true ⟨h10, Or.inr ⟨by omega, ?_, ?_⟩⟩
                    · rw [e1]; exact h13
                    · have e2 : i - 2 = s - 1 := by omega
                      rw [e2]; exact h6 hos
                  rw [own_Ghit v o (o + n) k i (by rw [own_Pof v o (o + n) i (by omega) hin]; exact hE), a1]
                · rw [if_neg (fun q => hos ((own_lt o s (by omega) (by omega)).mp q))]
                  refine fresh h10 ?_
                  unfold own_E
                  apply decide_eq_false
                  rintro ⟨-, ⟨-, q⟩ | ⟨q, -⟩⟩
                  · rw [e1] at q; exact n10 q
                  · omega
              · rw [if_neg h13]
                refine fresh h10 ?_
                unfold own_E
                apply decide_eq_false
                rintro ⟨-, ⟨-, q⟩ | ⟨-, q, -⟩⟩
                · rw [e1] at q; exact n10 q
                · rw [e1] at q; exact h13 q
            · rw [if_neg (fun q => his1 ((own_eq i (s + 1) (by omega) (by omega)).mp q))]
              refine fresh h10 ?_
              unfold own_E
              apply decide_eq_false
              rintro ⟨-, ⟨-, q⟩ | ⟨-, -, q⟩⟩
              · exact h7 (i - 1) (by omega) (by omega) q
              · exact h7 (i - 2) (by omega) (by omega) q
        · rw [if_neg h10, a1]
          have hE : own_E v o i = false := by
            unfold own_E
            apply decide_eq_false
            rintro ⟨q, -⟩
            exact h10 q
          rw [own_Gskip v o (o + n) k i (by rw [own_Pof v o (o + n) i (by omega) hin]; exact hE)]
          refine ih (i + 1) s f (by omega) (by omega) h3 (by omega) (by omega) h6 (fun j q1 q2 => ?_)
          by_cases hj : j = i
          · rw [hj]; exact h10
          · exact h7 j q1 (by omega)
      · rw [if_neg (fun q => hin ((own_lt i (o + n) (by omega) (by omega)).mp q)), own_Gend v o (o + n) (k + 1) i (by omega)]
theorem own_from (v : List Int32) (o n : Nat) : ∀ i k, i ≤ o → k + i = 8 → o ≤ 8 → own_G v o (o + n) 8 0 = own_G v o (o + n) k i := by
  intro i
  induction i with
  | zero => intro k h1 h2 _; rw [show k = 8 by omega]
  | succ i ih =>
    intro k h1 h2 h3
    rw [ih (k + 1) (by omega) (by omega) h3]
    apply own_Gskip
    unfold own_P
    rw [decide_eq_false (by omega)]; rfl
theorem own_90 (v : List Int32) (hl : v.length = 8) (x4 x5 : Int32) : f0_90 v x4 x5 = some 1 := by
  have q := c_mask x4 3 2 (by decide) (by decide +kernel)
  obtain ⟨o, ho, eo⟩ : ∃ o : Nat, o < 4 ∧ x4 &&& (3 : Int32) = Int32.ofNat o := by
    refine ⟨(x4 &&& (3 : Int32)).toInt.toNat, by omega, ?_⟩
    apply Int32.toInt_inj.mp
    rw [own_ti _ (by omega)]
    omega
  unfold f0_90
  rw [eo]
  have e9 : (9 : Int32) - Int32.ofNat o = Int32.ofNat (9 - o) := own_sub 9 o (by omega) (by decide)
  rw [e9, if_neg (show ¬ Int32.ofNat (9 - o) = (0 : Int32) from fun z => absurd ((own_eq (9 - o) 0 (by omega) (by decide)).mp z) (by omega))]
  have q5 := c_mask x5 2147483647 31 (by decide) (by decide +kernel)
  have h0 : 0 ≤ (x5 &&& (2147483647 : Int32)).toInt := by omega
  obtain ⟨n, hn, en⟩ : ∃ n : Nat, n < 9 - o ∧ (x5 &&& (2147483647 : Int32)) % Int32.ofNat (9 - o) = Int32.ofNat n := by
    have k : ((x5 &&& (2147483647 : Int32)) % Int32.ofNat (9 - o)).toInt = (x5 &&& (2147483647 : Int32)).toInt % ((9 - o : Nat) : Int) := by
      rw [Int32.toInt_mod, Int.tmod_eq_emod_of_nonneg h0, own_ti _ (by omega)]
    have k1 := Int.emod_nonneg (x5 &&& (2147483647 : Int32)).toInt (show ((9 - o : Nat) : Int) ≠ 0 by omega)
    have k2 := Int.emod_lt_of_pos (x5 &&& (2147483647 : Int32)).toInt (show (0 : Int) < ((9 - o : Nat) : Int) by omega)
    refine ⟨((x5 &&& (2147483647 : Int32)) % Int32.ofNat (9 - o)).toInt.toNat, by omega, ?_⟩
    apply Int32.toInt_inj.mp
    rw [own_ti _ (by omega)]
    omega
  unfold own_let
  dsimp only
  rw [en, own_add o n]
  have st := fun (i : Nat) (later : Int32) (hi : i < 8) => own_step v o (o + n) i later (by omega) (by omega) (by omega) (by omega)
  have s7 := st 7 (-1) (by decide)
  have e7 : (7 : Int32) = Int32.ofNat 7 := rfl
  have e6 : (6 : Int32) = Int32.ofNat 6 := rfl
  have e5 : (5 : Int32) = Int32.ofNat 5 := rfl
  have e4 : (4 : Int32) = Int32.ofNat 4 := rfl
  have e3 : (3 : Int32) = Int32.ofNat 3 := rfl
  have e2 : (2 : Int32) = Int32.ofNat 2 := rfl
  have e1 : (1 : Int32) = Int32.ofNat 1 := rfl
  have e0 : (0 : Int32) = Int32.ofNat 0 := rfl
  have L : f4_0 v (Int32.ofNat o) (Int32.ofNat n) = some (own_G v o (o + n) 8 0) := by
    unfold f4_0
    rw [own_from v o n o (8 - o) (by omega) (by omega) (by omega)]
    exact own_loop v o n hl (by omega) (8 - o) o o 12 (by omega) (by omega) (by omega) (by omega) (by omega) (fun q => by omega) (fun j q1 q2 => by omega)
  rw [L]
  rw [show f2_0 v (Int32.ofNat o) (Int32.ofNat (o + n)) (7 : Int32) (-1) = _ from st 7 (-1) (by decide)]
  simp only [Option.bind_some]
  rw [show ∀ z, f2_0 v (Int32.ofNat o) (Int32.ofNat (o + n)) (6 : Int32) z = _ from fun z => st 6 z (by decide)]
  simp only [Option.bind_some]
  rw [show ∀ z, f2_0 v (Int32.ofNat o) (Int32.ofNat (o + n)) (5 : Int32) z = _ from fun z => st 5 z (by decide)]
  simp only [Option.bind_some]
  rw [show ∀ z, f2_0 v (Int32.ofNat o) (Int32.ofNat (o + n)) (4 : Int32) z = _ from fun z => st 4 z (by decide)]
  simp only [Option.bind_some]
  rw [show ∀ z, f2_0 v (Int32.ofNat o) (Int32.ofNat (o + n)) (3 : Int32) z = _ from fun z => st 3 z (by decide)]
  simp only [Option.bind_some]
  rw [show ∀ z, f2_0 v (Int32.ofNat o) (Int32.ofNat (o + n)) (2 : Int32) z = _ from fun z => st 2 z (by decide)]
  simp only [Option.bind_some]
  rw [show ∀ z, f2_0 v (Int32.ofNat o) (Int32.ofNat (o + n)) (1 : Int32) z = _ from fun z => st 1 z (by decide)]
  simp only [Option.bind_some]
  rw [show ∀ z, f2_0 v (Int32.ofNat o) (Int32.ofNat (o + n)) (0 : Int32) z = _ from fun z => st 0 z (by decide)]
  simp only [Option.bind_some]
  rw [if_pos]
  rfl
theorem plain0 (x0 x2 : Int64) (x4 x5 : Int32) : f0_0 x0 x2 x4 x5 = some 1 := own_90 _ rfl x4 x5
theorem rm0 (l : Launch) (Z : State) (a0 : Array Value) (hw : ∀ d ∈ tables_1, d.before a0 Z = true) (ws : List Jvm.Cond) (x0 : Int64) (x2 : Int64) (x4 : Int32) (x5 : Int32) (h0 : Heap) : own_Met l Z x code maxLocals ret ws room_1 #[(.long x0), (.long x2), (.int x4), (.int x5)] h0 (fun v h L => v = some (.int 1) ∧ Fr h0.size L) := by
  refine own_body pn0 ?_
  intro p e s m below meth c s₁ C X e0
  exact own_cast (ef0 m x0 x2 x4 x5) (b0_0 hw C (Nat.le_refl h0.size) (1 : Int32) (fun v h L a b c => ⟨c, a⟩) X e0 (Fr.nil _) (Keep.refl h0 []) x0 x2 x4 x5 (plain0 x0 x2 x4 x5))
set_option maxRecDepth 65536 in
set_option maxHeartbeats 40000000 in
theorem comes_1 {Post : Tables → Env → Array Value → State → Outcome → State → Prop} (hpost : ∀ tb e args s v u, (limb_1_1.after args s (.returned v) u = true ∧ limb_1_2.after args s (.returned v) u = true ∧ True) → FrameEnd s (.returned v) u (Jvm.fieldLocs frame_1_writes args s ++ Jvm.arrayLocs frame_1_arrays args s ++ Jvm.staticLocs frame_1_statics s) 16 128 → Post tb e args s (.returned v) u) :
    ArmFor flags0 classFile x code maxLocals ret World_1 tables_1 room_1 Calls_1 rest_1 Pre_1 Post := by
  intro l hfl _ _ p e ha hc hk s m args below hf hA hF happ hP
  obtain ⟨hcalls, hrest, hpre⟩ := hP
  obtain ⟨-, -, -, hnamed, -, -, -, hat⟩ := (Spec.applies_iff hf).mp happ
  obtain ⟨hg, hn⟩ := and_e (Cond.before_iff.mp (show (Jvm.Cond.and given_1 narrow_1).before args s = true from hpre))
  obtain ⟨hcnt, hg0⟩ := and_e hg
  obtain ⟨ha0, hg1⟩ := and_e hg0
  obtain ⟨ha1, hg2⟩ := and_e hg1
  obtain ⟨ha2, hg3⟩ := and_e hg2
  have ha3 := hg3
  obtain ⟨w0, w1, w2, w3, rfl⟩ : ∃ w0 w1 w2 w3 : Value, args = #[w0, w1, w2, w3] := by
    have hs : args.size = 4 := by simpa [Cond.value, given_1] using hcnt
    obtain ⟨L⟩ := args
    match L, hs with
    | [w0, w1, w2, w3], _ => exact ⟨w0, w1, w2, w3, rfl⟩
  have hw := fun d (hd : d ∈ tables_1) => atoms_spec (ws := Jvm.Cond.code x code maxLocals ret :: tables_1) hat d (List.mem_cons_of_mem _ hd)
  obtain ⟨i0, ei0⟩ := isL_v ha0
  obtain rfl : w0 = (.long i0) := Option.some.inj ei0
  obtain ⟨i1, ei1⟩ := isL_v ha1
  obtain rfl : w1 = (.long i1) := Option.some.inj ei1
  obtain ⟨i2, ei2⟩ := is_v ha2
  obtain rfl : w2 = (.int i2) := Option.some.inj ei2
  obtain ⟨i3, ei3⟩ := is_v ha3
  obtain rfl : w3 = (.int i3) := Option.some.inj ei3
  obtain ⟨n, o, h1, h2, h3, _, L, rfl, ⟨rfl, N⟩, hq⟩ := rm0 l s _ hw tables_1 i0 i1 i2 i3 s.heap p e ha hc hk s m _ below hf ((Spec.applies_iff_loose hf).mp happ).1 ⟨rfl, State.Warmed39.refl s, rfl⟩ trivial
  refine ⟨n, _, h1, h2, h3, hpost _ _ _ _ _ _ ⟨Cond.after_iff.mpr rfl, Cond.after_iff.mpr (eq_i res_at (Term.int_eval (1)) rfl), trivial⟩ ⟨hq.1, hq.2.1, (hq.2.2.sift fun y hy => Or.inr (N y hy)).mono (by decide) (by decide)⟩⟩
theorem main_1_1 : Claimed_1_1 := comes_1 fun _ _ _ _ _ _ h hF => ⟨h.1, hF⟩
theorem main_1_2 : Claimed_1_2 := comes_1 fun _ _ _ _ _ _ h hF => ⟨h.2.1, hF⟩
end Jvm.Pilot.@@N@@
namespace Jvm.Pilot.@@N@@
open Jvm Jvm.ClassFile Sem Op Lib Jvm.Free Jvm.Stand Jvm.Pilot.@@N@@.Jvm.D
/-! MADE BY PROGRAM (witnessworld.py) out of the Statement's table words and the real class files: 9 classes; the members and pool entries that the words name. The judged class is class 1, her method 4. -/
namespace start1
open Jvm.ClassFile
def u (s : String) : CpInfo := .utf8 (stringToUtf16 s)
/-- a pool by its gaps: so many unusable entries, then the entry; so many at the end -/
def gap : Nat → List CpInfo → List CpInfo
  | 0, r => r
  | n + 1, r => .unusable :: gap n r
def poolList (es : List (Nat × CpInfo)) (last : Nat) : List CpInfo := es.foldr (fun e r => gap e.1 (e.2 :: r)) (gap last [])
def pool (es : List (Nat × CpInfo)) (last : Nat) : Array CpInfo := ⟨poolList es last⟩
def fileOf (pool : Array CpInfo) (this : Nat) (attrs : Array Attribute := #[]) (ms : Array MethodInfo := #[]) (fl : Nat := 33) (sup : Nat := 0) (ifs : Array Nat := #[]) (fds : Array FieldInfo := #[]) : ClassFile where
  minorVersion := 0
  majorVersion := 65
  constantPool := pool
  accessFlags := fl
  thisClass := this
  superClass := sup
  interfaces := ifs
  fields := fds
  methods := ms
  attributes := attrs
def plain (name : String) (sup : Option ClassId) : Class where
  name := name
  kind := .ordinary
  loader := none
  accessFlags := 33
  super := sup
  interfaces := #[]
  cf := none
  fields := #[]
  methods := #[]
  instanceTypes := #[]
  staticTypes := #[]
  resolved := #[]
  callSites := []
  init := .initialized
  statics := none
  mirror := none

def pool0 : Array CpInfo := pool [(5, u "<init>"), (0, u "()V"), (1, .class_ 10), (1, u "java/lang/Object")] 113

def k0m0 : Method := { name := "<init>", desc := "()V", sig := { parameters := [], returnType := none }, accessFlags := 1, code := none }
/-- java/lang/Object -/
def k0 : Class := { plain "java/lang/Object" none with
  accessFlags := 33
  interfaces := #[]
  cf := some (fileOf pool0 8 #[] #[{ accessFlags := 1, nameIndex := 5, descriptorIndex := 6, attributes := #[] }] 33 0 #[] #[])
  fields := #[]
  methods := #[k0m0]
  instanceTypes := #[]
  staticTypes := #[]
  resolved := Array.replicate 124 none
  statics := none }

def pool1 : Array CpInfo := pool [(2, .class_ 4), (1, u "java/lang/Object"), (0, u "<init>"), (0, u "()V"), (0, .long 3), (1, .methodref 10 11), (0, .class_ 12), (0, .nameAndType 13 14), (0, u "com/example/loomcast/loomcast/SipMessageHeadEndPinLaw"), (0, u "endsEmpty"), (0, u "([BII)Z"), (0, .methodref 10 16), (0, .nameAndType 17 18), (0, u "pick"), (0, u "(JJI)B"), (0, .integer 2147483647), (0, .methodref 10 21), (0, .nameAndType 22 23), (0, u "step"), (0, u "([BIIII)I"), (0, .methodref 25 26), (0, .class_ 27), (0, .nameAndType 28 29), (0, u "com/example/loomcast/loomcast/SipMessage"), (0, u "headEnd"), (0, u "([BII)I"), (3, u "law"), (0, u "(JJII)Z")] 4

def k1m0 : Method := { name := "<init>", desc := "()V", sig := { parameters := [], returnType := none }, accessFlags := 2, code := none }
def k1c1 : Code := { maxStack := 4, maxLocals := 6, code := method_2_code, exceptionTable := #[], attributes := #[] }
def k1m1 : Method := { name := "pick", desc := "(JJI)B", sig := { parameters := [.long, .long, .int], returnType := some .byte }, accessFlags := 10, code := some k1c1 }
def k1c2 : Code := { maxStack := 3, maxLocals := 3, code := method_3_code, exceptionTable := #[], attributes := #[] }
def k1m2 : Method := { name := "endsEmpty", desc := "([BII)Z", sig := { parameters := [(.array .byte), .int, .int], returnType := some .boolean }, accessFlags := 10, code := some k1c2 }
def k1c3 : Code := { maxStack := 3, maxLocals := 5, code := method_4_code, exceptionTable := #[], attributes := #[] }
def k1m3 : Method := { name := "step", desc := "([BIIII)I", sig := { parameters := [(.array .byte), .int, .int, .int, .int], returnType := some .int }, accessFlags := 10, code := some k1c3 }
def k1c4 : Code := { maxStack := 7, maxLocals := 11, code := code, exceptionTable := #[], attributes := #[] }
def k1m4 : Method := { name := "law", desc := "(JJII)Z", sig := { parameters := [.long, .long, .int, .int], returnType := some .boolean }, accessFlags := 9, code := some k1c4 }
/-- com/example/loomcast/loomcast/SipMessageHeadEndPinLaw -/
def k1 : Class := { plain "com/example/loomcast/loomcast/SipMessageHeadEndPinLaw" (some 0) with
  accessFlags := 49
  interfaces := #[]
  cf := some (fileOf pool1 10 #[] #[{ accessFlags := 2, nameIndex := 5, descriptorIndex := 6, attributes := #[] }, { accessFlags := 10, nameIndex := 17, descriptorIndex := 18, attributes := #[] }, { accessFlags := 10, nameIndex := 13, descriptorIndex := 14, attributes := #[] }, { accessFlags := 10, nameIndex := 22, descriptorIndex := 23, attributes := #[] }, { accessFlags := 9, nameIndex := 33, descriptorIndex := 34, attributes := #[] }] 49 2 #[] #[])
  fields := #[]
  methods := #[k1m0, k1m1, k1m2, k1m3, k1m4]
  instanceTypes := #[]
  staticTypes := #[]
  resolved := Array.replicate 39 none
  statics := none }

def pool2 : Array CpInfo := pool [(2, .class_ 4), (1, u "java/lang/Object"), (3, .class_ 10), (1, u "com/example/loomcast/loomcast/SipMessage"), (0, u "method"), (0, u "Ljava/lang/String;"), (2, u "requestUri"), (2, u "version"), (2, u "status"), (0, u "I"), (2, u "fields"), (0, u "Ljava/util/List;"), (2, u "problem"), (2, u "body"), (0, u "[B"), (42, u "REQUEST_LINE"), (0, u "Ljava/util/regex/Pattern;"), (10, u "STATUS_LINE"), (46, .class_ 136), (0, u "com/example/loomcast/loomcast/SipMessage$Field"), (20, u "COMPACT"), (0, u "Ljava/util/Map;"), (158, u "LENGTH_DIGITS_MOST"), (6, u "headEnd"), (0, u "([BII)I")] 54

def k2c0 : Code := { maxStack := 3, maxLocals := 6, code := prog_49_method_2_code, exceptionTable := #[], attributes := #[] }
def k2m0 : Method := { name := "headEnd", desc := "([BII)I", sig := { parameters := [(.array .byte), .int, .int], returnType := some .int }, accessFlags := 8, code := some k2c0 }
/-- com/example/loomcast/loomcast/SipMessage -/
def k2 : Class := { plain "com/example/loomcast/loomcast/SipMessage" (some 0) with
  accessFlags := 48
  interfaces := #[]
  cf := some (fileOf pool2 8 #[.nestMembers #[135]] #[{ accessFlags := 8, nameIndex := 324, descriptorIndex := 325, attributes := #[] }] 48 2 #[] #[{ accessFlags := 26, nameIndex := 157, descriptorIndex := 158, attributes := #[] }, { accessFlags := 26, nameIndex := 76, descriptorIndex := 77, attributes := #[] }, { accessFlags := 26, nameIndex := 88, descriptorIndex := 77, attributes := #[] }, { accessFlags := 26, nameIndex := 317, descriptorIndex := 22, attributes := #[] }, { accessFlags := 18, nameIndex := 11, descriptorIndex := 12, attributes := #[] }, { accessFlags := 18, nameIndex := 15, descriptorIndex := 12, attributes := #[] }, { accessFlags := 18, nameIndex := 18, descriptorIndex := 12, attributes := #[] }, { accessFlags := 18, nameIndex := 21, descriptorIndex := 22, attributes := #[] }, { accessFlags := 18, nameIndex := 25, descriptorIndex := 26, attributes := #[] }, { accessFlags := 18, nameIndex := 29, descriptorIndex := 12, attributes := #[] }, { accessFlags := 18, nameIndex := 32, descriptorIndex := 33, attributes := #[] }])
  fields := #[{ name := "COMPACT", type := (.object "java/util/Map"), accessFlags := 26, slot := 0, constantValue := 0 }, { name := "REQUEST_LINE", type := (.object "java/util/regex/Pattern"), accessFlags := 26, slot := 1, constantValue := 0 }, { name := "STATUS_LINE", type := (.object "java/util/regex/Pattern"), accessFlags := 26, slot := 2, constantValue := 0 }, { name := "LENGTH_DIGITS_MOST", type := .int, accessFlags := 26, slot := 3, constantValue := 0 }, { name := "method", type := (.object "java/lang/String"), accessFlags := 18, slot := 0, constantValue := 0 }, { name := "requestUri", type := (.object "java/lang/String"), accessFlags := 18, slot := 1, constantValue := 0 }, { name := "version", type := (.object "java/lang/String"), accessFlags := 18, slot := 2, constantValue := 0 }, { name := "status", type := .int, accessFlags := 18, slot := 3, constantValue := 0 }, { name := "fields", type := (.object "java/util/List"), accessFlags := 18, slot := 4, constantValue := 0 }, { name := "problem", type := (.object "java/lang/String"), accessFlags := 18, slot := 5, constantValue := 0 }, { name := "body", type := (.array .byte), accessFlags := 18, slot := 6, constantValue := 0 }]
  methods := #[k2m0]
  instanceTypes := #[(.object "java/lang/String"), (.object "java/lang/String"), (.object "java/lang/String"), .int, (.object "java/util/List"), (.object "java/lang/String"), (.array .byte)]
  staticTypes := #[(.object "java/util/Map"), (.object "java/util/regex/Pattern"), (.object "java/util/regex/Pattern"), .int]
  resolved := Array.replicate 380 none
  statics := none }

def pool3 : Array CpInfo := pool [(1, u "java/lang/Cloneable"), (0, .class_ 1), (0, u "java/lang/Object"), (0, .class_ 3)] 3

/-- java/lang/Cloneable -/
def k3 : Class := { plain "java/lang/Cloneable" (some 0) with
  accessFlags := 1537
  interfaces := #[]
  cf := some (fileOf pool3 2 #[] #[] 1537 4 #[] #[])
  fields := #[]
  methods := #[]
  instanceTypes := #[]
  staticTypes := #[]
  resolved := Array.replicate 8 none
  statics := none }

def pool4 : Array CpInfo := pool [(1, u "java/io/Serializable"), (0, .class_ 1), (0, u "java/lang/Object"), (0, .class_ 3)] 3

/-- java/io/Serializable -/
def k4 : Class := { plain "java/io/Serializable" (some 0) with
  accessFlags := 1537
  interfaces := #[]
  cf := some (fileOf pool4 2 #[] #[] 1537 4 #[] #[])
  fields := #[]
  methods := #[]
  instanceTypes := #[]
  staticTypes := #[]
  resolved := Array.replicate 8 none
  statics := none }

/-- the primitive byte -/
def k5 : Class := { plain "byte" none with kind := .primitive 'B', accessFlags := 0x411 }
/-- [B -/
def k6 : Class := { plain "[B" (some 0) with kind := .array 5 .byte, interfaces := #[3, 4], accessFlags := 1041 }

/-- the primitive int -/
def k7 : Class := { plain "int" none with kind := .primitive 'I', accessFlags := 0x411 }
/-- [I -/
def k8 : Class := { plain "[I" (some 0) with kind := .array 7 .int, interfaces := #[3, 4], accessFlags := 1041 }

def heap : Heap := #[]
def classes : Array Class := #[k0, k1, k2, k3, k4, k5, k6, k7, k8]
def interned : List (Array UInt16 × Addr) := []
def slotsUsed : Nat := 0
def theMethod : MethodId := ⟨1, 4⟩
def args0 : Array Value := #[.long 5, .long 5, .int 5, .int 5]
def aboutOver (below : List Frame) : State where
  vm := { classes := classes, interned := interned.toArray }
  heap := heap
  slotsUsed := slotsUsed
  threads := #[{ frames := .invoking theMethod args0 :: below }]
def below0 : List Frame := [.native { method := ⟨0, 0⟩, args := #[] }]
def about1 : State := aboutOver below0
def p0 : Program := .bare "" "" ""
def e0 : Env := launch0.env 0 0 0
theorem w_frames : about1.frames = Frame.invoking theMethod args0 :: below0 := rfl
set_option maxRecDepth 65536 in
theorem w_args : argsFit about1.vm theMethod args0 = true := by decide +kernel
set_option maxRecDepth 65536 in
theorem w_heap : heapFits about1 = true := by decide +kernel
set_option maxRecDepth 65536 in
theorem w_runnable : about1.curStatus? = some .runnable := by decide +kernel
set_option maxRecDepth 65536 in
theorem w_alone : about1.alone = true := by decide +kernel
set_option maxRecDepth 65536 in
theorem w_named : about1.methodNamed? x = some theMethod := by decide +kernel
set_option maxRecDepth 65536 in
theorem w_hears : about1.hears theMethod below0 = true := by decide +kernel
set_option maxRecDepth 65536 in
theorem w_ripe : about1.ripe theMethod args0 below0 = true := by decide +kernel
theorem w_running : about1.status = .running := rfl
set_option maxRecDepth 65536 in
theorem w_room : about1.hasRoom e0.platform room_1 = true :=
  launch0.hasRoom_least _ room_1 (by decide +kernel) (by decide +kernel) (by decide +kernel) (by decide +kernel) (by decide +kernel) (by decide +kernel)
theorem allAtoms_all (ts : List Jvm.Cond) (a : Array Jvm.Value) (st : Jvm.State) : (allAtoms ts).before a st = ts.all (fun c => c.before a st) := by
  induction ts with
  | nil => rfl
  | cons c t ih =>
    show (Jvm.Cond.and c (allAtoms t)).before a st = _
    rw [Jvm.Cond.before_and, ih, List.all_cons]
def words1 : List Jvm.Cond := Jvm.Cond.code x code maxLocals ret :: tables_1
/-- a 'code' word, met by the world's own term for the bytes: nothing is compared byte by byte -/
theorem code_word {y : MethodName} {bytes : ByteArray} {mx : Nat} {rt : Option FieldType} {a : Array Value} {s : State} {m : MethodId} {meth : Method} {c : Code} (h1 : s.methodNamed? y = some m) (h2 : s.vm.method? m = some meth) (h3 : meth.code = some c) (h4 : c.code = bytes)
    (h5 : (c.maxLocals == mx && c.exceptionTable.isEmpty && decide (c.maxStack ≤ mostOperands) && decide (meth.sig.returnType = rt) && !meth.locks && decide (parseMethodDescriptor y.desc = some meth.sig)) = true) : (Jvm.Cond.code y bytes mx rt).before a s = true := by
  simp only [Bool.and_eq_true, beq_iff_eq, Bool.not_eq_true', decide_eq_true_eq] at h5
  obtain ⟨⟨⟨⟨⟨g1, g2⟩, g3⟩, g4⟩, g5⟩, g6⟩ := h5
  simp [Cond.before, Cond.holds, Cond.value, h1, h2, h3, h4, g1, g2, g3, g4, g5, g6]
def isCode : Jvm.Cond → Bool
  | .code _ _ _ _ => true
  | _ => false
theorem all_split {L : List Jvm.Cond} {P : Jvm.Cond → Bool} (h1 : L.all (fun c => isCode c || P c) = true) (h2 : ∀ c ∈ L.filter isCode, P c = true) : L.all P = true := by
  refine List.all_eq_true.mpr fun c hc => ?_
  have h := List.all_eq_true.mp h1 c hc
  rcases Bool.eq_false_or_eq_true (isCode c) with hi | hi
  · exact h2 c (List.mem_filter.mpr ⟨hc, hi⟩)
  · simpa [hi] using h
set_option maxRecDepth 65536 in
theorem w_c0 : (Jvm.Cond.code x code maxLocals ret).before args0 about1 = true := code_word (m := ⟨1, 4⟩) (meth := k1m4) (c := k1c4) (by decide +kernel) rfl rfl rfl (by decide +kernel)
set_option maxRecDepth 65536 in
theorem w_c1 : (Jvm.Cond.code ({ cls := "com/example/loomcast/loomcast/SipMessageHeadEndPinLaw", name := "pick", desc := "(JJI)B" } : Jvm.MethodName) method_2_code (6 : Nat) (Option.some Jvm.ClassFile.FieldType.byte)).before args0 about1 = true := code_word (m := ⟨1, 1⟩) (meth := k1m1) (c := k1c1) (by decide +kernel) rfl rfl rfl (by decide +kernel)
set_option maxRecDepth 65536 in
theorem w_c2 : (Jvm.Cond.code ({ cls := "com/example/loomcast/loomcast/SipMessageHeadEndPinLaw", name := "step", desc := "([BIIII)I" } : Jvm.MethodName) method_4_code (5 : Nat) (Option.some Jvm.ClassFile.FieldType.int)).before args0 about1 = true := code_word (m := ⟨1, 3⟩) (meth := k1m3) (c := k1c3) (by decide +kernel) rfl rfl rfl (by decide +kernel)
set_option maxRecDepth 65536 in
theorem w_c3 : (Jvm.Cond.code ({ cls := "com/example/loomcast/loomcast/SipMessageHeadEndPinLaw", name := "endsEmpty", desc := "([BII)Z" } : Jvm.MethodName) method_3_code (3 : Nat) (Option.some Jvm.ClassFile.FieldType.boolean)).before args0 about1 = true := code_word (m := ⟨1, 2⟩) (meth := k1m2) (c := k1c2) (by decide +kernel) rfl rfl rfl (by decide +kernel)
set_option maxRecDepth 65536 in
theorem w_c4 : (Jvm.Cond.code ({ cls := "com/example/loomcast/loomcast/SipMessage", name := "headEnd", desc := "([BII)I" } : Jvm.MethodName) prog_49_method_2_code (6 : Nat) (Option.some Jvm.ClassFile.FieldType.int)).before args0 about1 = true := code_word (m := ⟨2, 0⟩) (meth := k2m0) (c := k2c0) (by decide +kernel) rfl rfl rfl (by decide +kernel)
def codes1 : List Jvm.Cond := [Jvm.Cond.code x code maxLocals ret, Jvm.Cond.code ({ cls := "com/example/loomcast/loomcast/SipMessageHeadEndPinLaw", name := "pick", desc := "(JJI)B" } : Jvm.MethodName) method_2_code (6 : Nat) (Option.some Jvm.ClassFile.FieldType.byte), Jvm.Cond.code ({ cls := "com/example/loomcast/loomcast/SipMessageHeadEndPinLaw", name := "step", desc := "([BIIII)I" } : Jvm.MethodName) method_4_code (5 : Nat) (Option.some Jvm.ClassFile.FieldType.int), Jvm.Cond.code ({ cls := "com/example/loomcast/loomcast/SipMessageHeadEndPinLaw", name := "endsEmpty", desc := "([BII)Z" } : Jvm.MethodName) method_3_code (3 : Nat) (Option.some Jvm.ClassFile.FieldType.boolean), Jvm.Cond.code ({ cls := "com/example/loomcast/loomcast/SipMessage", name := "headEnd", desc := "([BII)I" } : Jvm.MethodName) prog_49_method_2_code (6 : Nat) (Option.some Jvm.ClassFile.FieldType.int)]
set_option maxRecDepth 65536 in
theorem codes_eq : words1.filter isCode = codes1 := rfl
theorem w_codes : ∀ c ∈ words1.filter isCode, c.before args0 about1 = true := by
  rw [codes_eq]
  intro c hc
  simp only [codes1, List.mem_cons, List.not_mem_nil, or_false] at hc
  rcases hc with rfl | rfl | rfl | rfl | rfl
  · exact w_c0
  · exact w_c1
  · exact w_c2
  · exact w_c3
  · exact w_c4
set_option maxRecDepth 65536 in
theorem w_t1 : words1.all (fun c => isCode c || c.before args0 about1) = true := by decide +kernel
theorem w_tables : (allAtoms (Jvm.Cond.code x code maxLocals ret :: tables_1)).before args0 about1 = true := by
  rw [allAtoms_all]
  show words1.all (fun c => c.before args0 about1) = true
  refine all_split ?_ w_codes
  rw [w_t1]
set_option maxRecDepth 65536 in
theorem w_case : (Jvm.Cond.and given_1 narrow_1).before args0 about1 = true := by decide +kernel
theorem w_applies : (headSpec (Jvm.Cond.code x code maxLocals ret :: tables_1) room_1).applies x e0.platform about1 = true :=
  (Spec.applies_iff w_frames).mpr ⟨w_running, w_runnable, w_alone, w_named, w_hears, w_ripe, w_room, w_tables⟩
theorem atStart : AtStart classFile x code maxLocals ret World_1 tables_1 room_1 Calls_1 rest_1 Pre_1 launch0 p0 e0 about1 theMethod args0 below0 :=
  ⟨lists_1, trivial, launch0.admits_env _ _ _, launch0.least_env, fairChoices_fair.cas, fairChoices_fair.clock, w_frames, w_args, w_heap, w_applies, trivial, trivial, w_case⟩
end start1
theorem witness_1 : WitnessClaimed_1 := ⟨start1.p0, start1.e0, start1.about1, start1.theMethod, start1.args0, start1.below0, start1.atStart⟩
end Jvm.Pilot.@@N@@
