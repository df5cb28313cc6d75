import JvmDerived
import JvmDerived.Pilot.@@N@@Statement
import JvmDerived.Pilot.@@N@@Code
set_option linter.unusedVariables false
set_option linter.unusedSimpArgs false
namespace Jvm.RoadKit
open Sem ClassFile Op Lib Jvm.Stand Jvm.Free Jvm.LawKit
section New
variable {p : Program} {l : Launch} {e : Env} {R : Room} {s : State} {m : MethodId} {args : Array Value} {below : List Frame} {meth : Method} {c : Code} {T : State} {locs : List Loc} {cells slots : Nat}
theorem retI (X : Stand p l e R s m args below meth c T locs cells slots) (hx : p.tables.exec = Jvm.exec) {pc : Nat} {Ls : Array Slot} {z : Int32} {rest : List Value} (hret : meth.sig.returnType = some .int) (hd : decode c.code pc = .ok (.ireturn, 1)) {fs : List Frame}
    (hl : ∀ (f : JFrame) (acts : List Action), f.method = m → f.locked = none → f.entered = [] → (doReturn e (T.setTop f) acts (some (.int z))).1 = T.setFrames fs) : Steps p.tables e below (T.setTop (mkF m pc Ls (.int z :: rest))) (T.setFrames fs) := by
  have hm' : T.vm.method? m = some meth := X.method'
  have hn : narrow .int (.int z) = .int z := rfl
  show Steps p.tables e below (T.setTop { method := m, pc := pc, locals := Ls, stack := _ :: rest, locked := none }) _
  jvm_step X.here [X.here.top, hx, hd, hm', hret, hn]
  first | (intro acts; rw [hl _ acts rfl rfl rfl]) | rw [hl _ _ rfl rfl rfl]
  exact Steps.refl _
end New
end Jvm.RoadKit
namespace Jvm.Pilot.@@N@@
open Jvm Jvm.ClassFile Sem Op Lib Jvm.Free Jvm.Stand Jvm.LawKit Jvm.RoadKit Bundle Jvm.Pilot.@@N@@.Jvm.D
/-- what is still to come: from the frame g at T the run comes to an end that Q takes -/
def own_WP (p : Program) (e : Env) (below : List Frame) (Q : Outcome → State → Prop) (T : State) (g : JFrame) : Prop :=
  ∃ s₂ o, Steps p.tables e below (T.setTop g) s₂ ∧ s₂.status = .running ∧ Ended s₂ below o ∧ Q o s₂
def own_Q (s : State) (P : Option Value → Heap → List Loc → Prop) (C S : Nat) (o : Outcome) (U : State) : Prop :=
  ∃ v L, o = .returned v ∧ P v U.heap L ∧ FrameEnd s o U L C S
def own_Ctx (p : Program) (s : State) (m : MethodId) (meth : Method) (c : Code) (Z : State) (y : MethodName) (bytes : ByteArray) (maxL : Nat) (rt : Option FieldType) : Prop :=
  p.tables.exec = Jvm.exec ∧ Z.Warmed39 s.vm ∧ c.code = bytes ∧ c.maxLocals = maxL ∧ s.vm.findClass y.cls = some m.cls ∧ meth.name = y.name ∧ meth.sig.returnType = rt ∧ meth.locks = false
def own_Met (l : Launch) (Z : State) (y : MethodName) (bytes : ByteArray) (maxL : Nat) (rt : Option FieldType) (ws : List Jvm.Cond) (rm : Room) (as' : Array Value) (h : Heap) (P : Option Value → Heap → List Loc → Prop) : Prop :=
  MetFree l y (head1 (Jvm.Cond.code y bytes maxL rt :: ws) rm) (fun a U => a = as' ∧ Z.Warmed39 U.vm ∧ U.heap = h) (fun _ _ _ _ _ => True) (fun _ U o U' => ∃ v L, o = .returned v ∧ P v U'.heap L ∧ FrameEnd U o U' L rm.cells rm.slots)
section Own
variable {p : Program} {l : Launch} {e : Env} {R : Room} {s : State} {m : MethodId} {args : Array Value} {below : List Frame} {meth : Method} {c : Code} {T T' : State} {locs : List Loc} {cells slots : Nat} {Z : State} {a0 : Array Value} {y : MethodName} {bytes : ByteArray} {maxL : Nat} {rt : Option FieldType} {P : Option Value → Heap → List Loc → Prop} {Q : Outcome → State → Prop}
theorem own_go {g g' : JFrame} (st : ∀ t, Steps p.tables e below (T'.setTop g') t → Steps p.tables e below (T.setTop g) t) (h : own_WP p e below Q T' g') : own_WP p e below Q T g := by
  obtain ⟨s₂, o, h1, h2⟩ := h
  exact ⟨s₂, o, st _ h1, h2⟩
theorem own_body {ws : List Jvm.Cond} {rm : Room} {as' : Array Value} {h : Heap} (hp : plainFor y = true)
    (body : ∀ p e s m below meth c s₁, own_Ctx p s m meth c Z y bytes maxL rt → Stand p l e rm s m as' below meth c s₁ [] 0 0 → s₁.heap = h → own_WP p e below (own_Q s P rm.cells rm.slots) s₁ (entryFrame m as' maxL)) :
    own_Met l Z y bytes maxL rt ws rm as' h P := by
  refine MetFree.of_bodySF hp hisR ?_
  intro p e s m args below meth c s₁ Bd hml0 hP hK
  obtain ⟨rfl, hZ, hh⟩ := hP
  exact body p e s m below meth c s₁ ⟨Bd.exec, hZ, Bd.bytes, hml0, findClass_of_methodNamed Bd.named, (name_of_methodNamed Bd.named Bd.method).1, Bd.returns, Bd.notSynchronized⟩ (Stand.of_body Bd) (by rw [← hh, Bd.state]; rfl)
theorem own_cast {g g' : JFrame} (q : g = g') (k : own_WP p e below Q T g') : own_WP p e below Q T g := q ▸ k
theorem own_retI (X : Stand p l e R s m args below meth c T locs cells slots) (C : own_Ctx p s m meth c Z y bytes maxL (some .int)) {pc : Nat} {Ls : Array Slot} {z : Int32} {rest : List Value} {CC SS : Nat}
    (hd : decode c.code pc = .ok (.ireturn, 1)) (hP : P (some (.int z)) T.heap locs) (hc : cells ≤ CC) (hs : slots ≤ SS) : own_WP p e below (own_Q s P CC SS) T (mkF m pc Ls (.int z :: rest)) := by
  obtain ⟨hx, -, -, -, -, -, hr, hlk⟩ := C
  obtain ⟨fs, hrr, hrun, hended, hW, hsame⟩ := X.leave (v := some (.int z)) (fun h => by rw [hr] at h; cases h) hlk
  exact ⟨_, _, retI X hx hr hd hrr, hrun, hended, _, _, rfl, hP, ⟨_, rfl⟩, hW, hsame.mono hc hs⟩
theorem own_retN {t : FieldType} (X : Stand p l e R s m args below meth c T locs cells slots) (C : own_Ctx p s m meth c Z y bytes maxL (some t)) (ht : t = .boolean ∨ t = .byte ∨ t = .char ∨ t = .short) {pc : Nat} {Ls : Array Slot} {z : Int32} {rest : List Value} {CC SS : Nat}
    (hd : decode c.code pc = .ok (.ireturn, 1)) (hP : P (some (.int (nar t z))) T.heap locs) (hc : cells ≤ CC) (hs : slots ≤ SS) : own_WP p e below (own_Q s P CC SS) T (mkF m pc Ls (.int z :: rest)) := by
  obtain ⟨hx, -, -, -, -, -, hr, hlk⟩ := C
  obtain ⟨fs, hrr, hrun, hended, hW, hsame⟩ := X.leave (v := some (.int (nar t z))) (fun h => by rw [hr] at h; cases h) hlk
  exact ⟨_, _, retN X hx hr ht hd hrr, hrun, hended, _, _, rfl, hP, ⟨_, rfl⟩, hW, hsame.mono hc hs⟩
theorem own_retL (X : Stand p l e R s m args below meth c T locs cells slots) (C : own_Ctx p s m meth c Z y bytes maxL (some .long)) {pc : Nat} {Ls : Array Slot} {z : Int64} {CC SS : Nat}
    (hd : decode c.code pc = .ok (.lreturn, 1)) (hP : P (some (.long z)) T.heap locs) (hc : cells ≤ CC) (hs : slots ≤ SS) : own_WP p e below (own_Q s P CC SS) T (mkF m pc Ls [.long z]) := by
  obtain ⟨hx, -, -, -, -, -, hr, hlk⟩ := C
  obtain ⟨fs, hrr, hrun, hended, hW, hsame⟩ := X.leave (v := some (.long z)) (fun h => by rw [hr] at h; cases h) hlk
  exact ⟨_, _, X.lreturnOut hx hr hd hrr, hrun, hended, _, _, rfl, hP, ⟨_, rfl⟩, hW, hsame.mono hc hs⟩
theorem own_retV (X : Stand p l e R s m args below meth c T locs cells slots) (C : own_Ctx p s m meth c Z y bytes maxL none) {pc : Nat} {Ls : Array Slot} {CC SS : Nat}
    (hd : decode c.code pc = .ok (.return_, 1)) (hP : P none T.heap locs) (hc : cells ≤ CC) (hs : slots ≤ SS) : own_WP p e below (own_Q s P CC SS) T (mkF m pc Ls []) := by
  obtain ⟨hx, -, -, -, -, -, hr, hlk⟩ := C
  obtain ⟨fs, hrr, hrun, hended, hW, hsame⟩ := X.leave (v := none) (fun _ => rfl) hlk
  exact ⟨_, _, X.returnOut hx hr hd hrr, hrun, hended, _, _, rfl, hP, ⟨_, rfl⟩, hW, hsame.mono hc hs⟩
theorem own_retA {t : FieldType} (X : Stand p l e R s m args below meth c T locs cells slots) (C : own_Ctx p s m meth c Z y bytes maxL (some t)) (ht : t.isReference = true) {pc : Nat} {Ls : Array Slot} {a : Addr} {CC SS : Nat}
    (hd : decode c.code pc = .ok (.areturn, 1)) (hP : P (some (.ref a)) T.heap locs) (hc : cells ≤ CC) (hs : slots ≤ SS) : own_WP p e below (own_Q s P CC SS) T (mkF m pc Ls [.ref a]) := by
  obtain ⟨hx, -, -, -, -, -, hr, hlk⟩ := C
  obtain ⟨fs, hrr, hrun, hended, hW, hsame⟩ := X.leave (v := some (.ref a)) (fun h => by rw [hr] at h; cases h) hlk
  exact ⟨_, _, X.areturnOut hx rfl hr ht hd hrr, hrun, hended, _, _, rfl, hP, ⟨_, rfl⟩, hW, hsame.mono hc hs⟩
/-- a static call by the callee's contract -/
theorem own_callS (X : Stand p l e R s m args below meth c T locs cells slots) (C : own_Ctx p s m meth c Z y bytes maxL rt) {idx : Nat} {y' : MethodName} {bytes' : ByteArray} {maxL' : Nat} {rt' : Option FieldType} {rm' : Room} {argsL rest : List Value} {h : Heap} {P' : Option Value → Heap → List Loc → Prop}
    (hM : own_Met l Z y' bytes' maxL' rt' [] rm' argsL.toArray h P') (w1 : (Cond.methodLink y.cls idx y').before a0 Z = true) (w2 : (Cond.static y').before a0 Z = true) (w3 : (Cond.initialized y'.cls).before a0 Z = true) (w4 : (Cond.code y' bytes' maxL' rt').before a0 Z = true)
    (hy : y'.cls ≠ "java/lang/invoke/MethodHandle" ∧ y'.cls ≠ "java/lang/invoke/VarHandle") (eT : T.heap = h) {W : Nat} {pc : Nat} {Ls : Array Slot} (hsz : Ls.size = maxL) (hlen : ∀ sig, parseMethodDescriptor y'.desc = some sig → argsL.length = sig.parameters.length)
    {stk : List Value} (hst : stk = argsL.reverse ++ rest) (hW : (rest.map fun v => v.category).sum ≤ W) (hd : decode c.code pc = .ok (.invokestatic idx, 3))
    (hf : rm'.frames + 1 ≤ R.frames) (hl : W + (maxL' + 11) + rm'.locals ≤ R.locals) (hc : cells + rm'.cells ≤ R.cells) (hs : slots + rm'.slots ≤ R.slots) :
    ∃ T' v L, Stand p l e R s m args below meth c T' (locs ++ L) (cells + rm'.cells) (slots + rm'.slots) ∧ P' v T'.heap L ∧ ∀ t, Steps p.tables e below (T'.setTop (mkF m (pc + 3) Ls (v.toList ++ rest))) t → Steps p.tables e below (T.setTop (mkF m pc Ls stk)) t := by
  obtain ⟨hx, hZ, hby, hml, hown, hnm, hr, hlk⟩ := C
  obtain ⟨v, _, ⟨T', L', k', n'⟩, -, X', ⟨L, hQ, hl', hk', hn'⟩, st⟩ := Jvm.LawKit.callS X hx (y := y') hown (mvT hZ w1) (mvT hZ w2) (mvT hZ w3) (mvT hZ w4) hy (backOf (W := W) hM hZ w4 w3 hf hl) (g := mkF m pc Ls stk) rfl (by rw [hml]; exact hsz) (argsL := argsL) (rest := rest) hlen hst (by show 2 * 0 + _ ≤ _; omega) hd (fun _ _ => ⟨rfl, eT, hc, hs⟩)
  dsimp only [Pt.U, Pt.locs, Pt.cells, Pt.slots] at X' hl' hk' hn' st hQ
  subst hl' hk' hn'
  exact ⟨T', v, L, X', hQ, st⟩
/-- a constructor by its contract -/
theorem own_callN (X : Stand p l e R s m args below meth c T locs cells slots) (C : own_Ctx p s m meth c Z y bytes maxL rt) {idx : Nat} {y' : MethodName} {bytes' : ByteArray} {maxL' : Nat} {rm' : Room} {a : Addr} {argsL rest : List Value} {h : Heap} {P' : Option Value → Heap → List Loc → Prop}
    (hM : own_Met l Z y' bytes' maxL' none [] rm' (.ref a :: argsL).toArray h P') (hyn : y'.name = "<init>") (w1 : (Cond.methodLink y.cls idx y').before a0 Z = true) (w2 : (Cond.instanceMethod y').before a0 Z = true) (w3 : (Cond.initialized y'.cls).before a0 Z = true) (w4 : (Cond.code y' bytes' maxL' none).before a0 Z = true)
    (hy : y'.cls ≠ "java/lang/invoke/MethodHandle" ∧ y'.cls ≠ "java/lang/invoke/VarHandle") (eT : T.heap = h) {W : Nat} {pc : Nat} {Ls : Array Slot} (hsz : Ls.size = maxL) (hlen : ∀ sig, parseMethodDescriptor y'.desc = some sig → argsL.length = sig.parameters.length)
    {stk : List Value} (hst : stk = argsL.reverse ++ .ref a :: rest) (hW : (rest.map fun v => v.category).sum ≤ W) (hd : decode c.code pc = .ok (.invokespecial idx, 3))
    (hf : rm'.frames + 1 ≤ R.frames) (hl : W + (maxL' + 11) + rm'.locals ≤ R.locals) (hc : cells + rm'.cells ≤ R.cells) (hs : slots + rm'.slots ≤ R.slots) :
    ∃ T' v L, Stand p l e R s m args below meth c T' (locs ++ L) (cells + rm'.cells) (slots + rm'.slots) ∧ P' v T'.heap L ∧ ∀ t, Steps p.tables e below (T'.setTop (mkF m (pc + 3) Ls (v.toList ++ rest))) t → Steps p.tables e below (T.setTop (mkF m pc Ls stk)) t := by
  obtain ⟨hx, hZ, hby, hml, hown, hnm, hr, hlk⟩ := C
  obtain ⟨v, _, ⟨T', L', k', n'⟩, -, X', ⟨L, hQ, hl', hk', hn'⟩, st⟩ := X.specialBack hx (y := y') hyn hown (mvT hZ w1) (mvT hZ w2) (mvT hZ w4) hy (backOf (W := W) hM hZ w4 w3 hf hl) (g := mkF m pc Ls stk) rfl (by rw [hml]; exact hsz) (Steps.refl _) (a := a) (argsL := argsL) (rest := rest) hlen hst (by show 2 * 0 + _ ≤ _; omega) hd (fun _ _ => ⟨rfl, eT, hc, hs⟩)
  dsimp only [Pt.U, Pt.locs, Pt.cells, Pt.slots] at X' hl' hk' hn' st hQ
  subst hl' hk' hn'
  exact ⟨T', v, L, X', hQ, fun t k => st.trans k⟩
/-- an instance method by the contract of the body that is selected (the class that declares it is the receiver's own) -/
theorem own_callV (X : Stand p l e R s m args below meth c T locs cells slots) (C : own_Ctx p s m meth c Z y bytes maxL rt) {idx : Nat} {y' : MethodName} {bytes' : ByteArray} {maxL' : Nat} {rt' : Option FieldType} {rm' : Room} {a : Addr} {argsL rest : List Value} {h : Heap} {P' : Option Value → Heap → List Loc → Prop}
    (hM : own_Met l Z y' bytes' maxL' rt' [] rm' (.ref a :: argsL).toArray h P') (w1 : (Cond.methodLink y.cls idx y').before a0 Z = true) (wd : (Cond.declares y').before a0 Z = true) (wsel : (Cond.selects y'.cls y' y').before a0 Z = true) (w2 : (Cond.instanceMethod y').before a0 Z = true) (w3 : (Cond.initialized y'.cls).before a0 Z = true) (w4 : (Cond.code y' bytes' maxL' rt').before a0 Z = true)
    (hy : y'.cls ≠ "java/lang/invoke/MethodHandle" ∧ y'.cls ≠ "java/lang/invoke/VarHandle") (eT : T.heap = h) (E : Exa Z h a y'.cls) {W : Nat} {pc : Nat} {Ls : Array Slot} (hsz : Ls.size = maxL) (hlen : ∀ sig, parseMethodDescriptor y'.desc = some sig → argsL.length = sig.parameters.length)
    {stk : List Value} (hst : stk = argsL.reverse ++ .ref a :: rest) (hW : (rest.map fun v => v.category).sum ≤ W) (hd : decode c.code pc = .ok (.invokevirtual idx, 3))
    (hf : rm'.frames + 1 ≤ R.frames) (hl : W + (maxL' + 11) + rm'.locals ≤ R.locals) (hc : cells + rm'.cells ≤ R.cells) (hs : slots + rm'.slots ≤ R.slots) :
    ∃ T' v L, Stand p l e R s m args below meth c T' (locs ++ L) (cells + rm'.cells) (slots + rm'.slots) ∧ P' v T'.heap L ∧ ∀ t, Steps p.tables e below (T'.setTop (mkF m (pc + 3) Ls (v.toList ++ rest))) t → Steps p.tables e below (T.setTop (mkF m pc Ls stk)) t := by
  obtain ⟨hx, hZ, hby, hml, hown, hnm, hr, hlk⟩ := C
  obtain ⟨cq, kq, qa, qb, qc⟩ := isOf hZ eT E
  obtain ⟨v, _, ⟨T', L', k', n'⟩, -, X', ⟨L, hQ, hl', hk', hn'⟩, st⟩ := X.virtualBack hx (y := y') (z := y') hown (mvT hZ w1) (mvT hZ wd) (notFace_of_selects (args := #[]) (mvT hZ wsel)) (mvT hZ wsel) (mvT hZ w2) hy (backOf (W := W) hM hZ w4 w3 hf hl) qa qc (g := mkF m pc Ls stk) rfl (by rw [hml]; exact hsz) (Steps.refl _) (argsL := argsL) (rest := rest) hlen hst (by show 2 * 0 + _ ≤ _; omega) hd (fun _ _ => ⟨rfl, eT, hc, hs⟩)
  dsimp only [Pt.U, Pt.locs, Pt.cells, Pt.slots] at X' hl' hk' hn' st hQ
  subst hl' hk' hn'
  exact ⟨T', v, L, X', hQ, fun t k => st.trans k⟩
end Own
end Jvm.Pilot.@@N@@
namespace Jvm.Pilot.@@N@@
open Jvm Jvm.ClassFile Sem Op Lib Jvm.Free Jvm.Stand Jvm.LawKit Jvm.RoadKit Bundle Jvm.Pilot.@@N@@.Jvm.D
/-- the array at b holds just vs -/
def own_A (Z : State) (h : Heap) (b : Addr) (ty : FieldType) (vs : List Value) : Prop := Exa Z h b ("[" ++ ty.toString) ∧ ∃ c : Cell, Arr Z h b c ty ∧ c.slots = vs.toArray ∧ vs.length < 2147483648 ∧ ∀ v ∈ vs, fits ty v = true
def own_AI (Z : State) (h : Heap) (b : Addr) (ty : FieldType) (vs : List Int32) : Prop := own_A Z h b ty (vs.map Value.int)
def own_AJ (Z : State) (h : Heap) (b : Addr) (ty : FieldType) (vs : List Int64) : Prop := own_A Z h b ty (vs.map Value.long)
def own_get {α : Type} (vs : List α) (j : Int32) : Option α := if j < 0 then none else vs[j.toNatClampNeg]?
def own_set {α : Type} (vs : List α) (j : Int32) (x : α) : Option (List α) := if j < 0 then none else if j.toNatClampNeg < vs.length then some (vs.set j.toNatClampNeg x) else none
theorem own_bind {α β : Type} {o : Option α} {f : α → Option β} {r : β} (h : o.bind f = some r) : ∃ v, o = some v ∧ f v = some r := by
  cases o with
  | none => cases h
  | some v => exact ⟨v, rfl, h⟩
def own_let {α β : Type} (a : α) (f : α → β) : β := f a
theorem own_letE {α β : Type} {a : α} {f : α → β} {r : β} (h : own_let a f = r) : f a = r := h
theorem own_ne {a b : Nat} (h : a < b ∨ b < a) : @Ne Addr a b := by
  intro e
  rcases h with h | h
  · exact Nat.lt_irrefl _ (e ▸ h)
  · exact Nat.lt_irrefl _ (e ▸ h)
theorem own_cap {n : Int32} {c : Int} {k : Nat} (hk : c = (k : Int)) (h : ¬ c < n.toInt) : n.toNatClampNeg ≤ k := by
  have q : n.toNatClampNeg = n.toInt.toNat := rfl
  rw [q]; omega
section Own
variable {p : Program} {l : Launch} {e : Env} {R : Room} {s : State} {m : MethodId} {args : Array Value} {below : List Frame} {meth : Method} {c : Code} {T T' : State} {locs : List Loc} {cells slots : Nat} {Z : State} {a0 : Array Value} {y : MethodName} {bytes : ByteArray} {maxL : Nat} {rt : Option FieldType} {h h' : Heap} {a b : Addr} {ty : FieldType}
theorem own_A.lt {vs : List Value} (F : own_A Z h b ty vs) : b < h.size := by obtain ⟨E, c, A, -⟩ := F; exact A.lt
theorem own_A.ext {vs : List Value} (F : own_A Z h b ty vs) (E : Ext h h') : own_A Z h' b ty vs := by obtain ⟨Q, c, A, r⟩ := F; exact ⟨Q.ext E, c, A.ext E, r⟩
theorem own_A.other {vs : List Value} {sl : Nat} {v : Value} (F : own_A Z h b ty vs) (W : Wr h h' a sl v) (q : b ≠ a) : own_A Z h' b ty vs := by obtain ⟨Q, c, A, r⟩ := F; exact ⟨Q.wr W, c, A.other W q, r⟩
theorem own_A.keep {vs : List Value} {ws : List Addr} (F : own_A Z h b ty vs) (K : Keep h h' ws) (q : b ∉ ws) : own_A Z h' b ty vs := by obtain ⟨Q, c, A, r⟩ := F; exact ⟨Q.keep K, c, ⟨K.2.1 b c A.1 q, A.2⟩, r⟩
theorem own_A.set {vs : List Value} {j : Nat} {v : Value} (F : own_A Z h b ty vs) (W : Wr h h' b j v) (hv : fits ty v = true) : own_A Z h' b ty (vs.set j v) := by
  obtain ⟨Q, c, A, r1, r2, r3⟩ := F
  refine ⟨Q.wr W, _, A.same W, ?_, by simpa using r2, ?_⟩
  · show c.slots.setIfInBounds j v = _
    rw [r1]; simp
  · intro u hu
    rcases List.mem_or_eq_of_mem_set hu with q | q
    · exact r3 u q
    · rw [q]; exact hv
theorem own_AI.lt {vs : List Int32} (F : own_AI Z h b ty vs) : b < h.size := own_A.lt F
theorem own_AI.ext {vs : List Int32} (F : own_AI Z h b ty vs) (E : Ext h h') : own_AI Z h' b ty vs := own_A.ext F E
theorem own_AI.other {vs : List Int32} {sl : Nat} {v : Value} (F : own_AI Z h b ty vs) (W : Wr h h' a sl v) (q : b ≠ a) : own_AI Z h' b ty vs := own_A.other F W q
theorem own_AI.keep {vs : List Int32} {ws : List Addr} (F : own_AI Z h b ty vs) (K : Keep h h' ws) (q : b ∉ ws) : own_AI Z h' b ty vs := own_A.keep F K q
theorem own_AJ.lt {vs : List Int64} (F : own_AJ Z h b ty vs) : b < h.size := own_A.lt F
theorem own_AJ.ext {vs : List Int64} (F : own_AJ Z h b ty vs) (E : Ext h h') : own_AJ Z h' b ty vs := own_A.ext F E
theorem own_AJ.other {vs : List Int64} {sl : Nat} {v : Value} (F : own_AJ Z h b ty vs) (W : Wr h h' a sl v) (q : b ≠ a) : own_AJ Z h' b ty vs := own_A.other F W q
theorem own_AJ.keep {vs : List Int64} {ws : List Addr} (F : own_AJ Z h b ty vs) (K : Keep h h' ws) (q : b ∉ ws) : own_AJ Z h' b ty vs := own_A.keep F K q
theorem own_A.place {α : Type} {f : α → Value} {vs : List α} {j : Int32} {v : α} (F : own_A Z h b ty (vs.map f)) (g : own_get vs j = some v) : ∃ c : Cell, Arr Z h b c ty ∧ ¬ (j < 0 ∨ c.slots.size ≤ j.toNatClampNeg) ∧ c.slots[j.toNatClampNeg]? = some (f v) := by
  obtain ⟨-, c, A, r1, r2, -⟩ := F
  unfold own_get at g
  split at g
  · cases g
  · rename_i hj
    obtain ⟨hlt, hv⟩ := List.getElem?_eq_some_iff.mp g
    refine ⟨c, A, ?_, ?_⟩
    · rintro (q | q)
      · exact hj q
      · rw [r1] at q; simp at q; omega
    · rw [r1]; simp [g]
theorem own_A.room {α : Type} {f : α → Value} {vs vs' : List α} {j : Int32} {v : α} (F : own_A Z h b ty (vs.map f)) (g : own_set vs j v = some vs') : ∃ c : Cell, Arr Z h b c ty ∧ ¬ (j < 0 ∨ c.slots.size ≤ j.toNatClampNeg) ∧ vs' = vs.set j.toNatClampNeg v := by
  obtain ⟨-, c, A, r1, r2, -⟩ := F
  unfold own_set at g
  split at g
  · cases g
  · rename_i hj
    split at g
    · rename_i hlt
      refine ⟨c, A, ?_, (Option.some.inj g).symm⟩
      rintro (q | q)
      · exact hj q
      · rw [r1] at q; simp at q; omega
    · cases g
theorem own_iaload (X : Stand p l e R s m args below meth c T locs cells slots) (C : own_Ctx p s m meth c Z y bytes maxL rt) (eT : T.heap = h) {vs : List Int32} (F : own_AI Z h b .int vs) {j v : Int32} (g : own_get vs j = some v) {pc : Nat} {Ls : Array Slot} {rest : List Value} (hd : decode c.code pc = .ok (.iaload, 1)) :
    ∀ t, Steps p.tables e below (T.setTop (mkF m (pc + 1) Ls (.int v :: rest))) t → Steps p.tables e below (T.setTop (mkF m pc Ls (.int j :: .ref b :: rest))) t := by
  obtain ⟨hx, hZ, -⟩ := C
  obtain ⟨cl, A, hin, hat⟩ := own_A.place F g
  intro t k
  exact X.iaload hx (j := j) (v := .int v) (by rw [eT]; exact A.1) (State.isArrayOf_alike hZ.alike A.2.1) A.2.2 hin hat (g := mkF m pc Ls (.int j :: .ref b :: rest)) rfl rfl hd t k
theorem own_baload (X : Stand p l e R s m args below meth c T locs cells slots) (C : own_Ctx p s m meth c Z y bytes maxL rt) (eT : T.heap = h) {vs : List Int32} (F : own_AI Z h b .byte vs) {j v : Int32} (g : own_get vs j = some v) {pc : Nat} {Ls : Array Slot} {rest : List Value} (hd : decode c.code pc = .ok (.baload, 1)) :
    ∀ t, Steps p.tables e below (T.setTop (mkF m (pc + 1) Ls (.int v :: rest))) t → Steps p.tables e below (T.setTop (mkF m pc Ls (.int j :: .ref b :: rest))) t := by
  obtain ⟨hx, hZ, -⟩ := C
  obtain ⟨cl, A, hin, hat⟩ := own_A.place F g
  intro t k
  exact X.baloadBytes hx (j := j) (v := .int v) (by rw [eT]; exact A.1) (State.isArrayOf_alike hZ.alike A.2.1) A.2.2 hin hat (g := mkF m pc Ls (.int j :: .ref b :: rest)) rfl rfl hd t k
theorem own_laload (X : Stand p l e R s m args below meth c T locs cells slots) (C : own_Ctx p s m meth c Z y bytes maxL rt) (eT : T.heap = h) {vs : List Int64} (F : own_AJ Z h b .long vs) {j : Int32} {v : Int64} (g : own_get vs j = some v) {pc : Nat} {Ls : Array Slot} {rest : List Value} (hd : decode c.code pc = .ok (.laload, 1)) :
    ∀ t, Steps p.tables e below (T.setTop (mkF m (pc + 1) Ls (.long v :: rest))) t → Steps p.tables e below (T.setTop (mkF m pc Ls (.int j :: .ref b :: rest))) t := by
  obtain ⟨hx, hZ, -⟩ := C
  obtain ⟨cl, A, hin, hat⟩ := own_A.place F g
  intro t k
  exact X.laload hx (j := j) (v := .long v) (by rw [eT]; exact A.1) (State.isArrayOf_alike hZ.alike A.2.1) A.2.2 hin hat (g := mkF m pc Ls (.int j :: .ref b :: rest)) rfl rfl hd t k
theorem own_len (X : Stand p l e R s m args below meth c T locs cells slots) (C : own_Ctx p s m meth c Z y bytes maxL rt) (eT : T.heap = h) {vs : List Value} (F : own_A Z h b ty vs) {pc : Nat} {Ls : Array Slot} {rest : List Value} (hd : decode c.code pc = .ok (.arraylength, 1)) :
    ∀ t, Steps p.tables e below (T.setTop (mkF m (pc + 1) Ls (.int (Int32.ofNat vs.length) :: rest))) t → Steps p.tables e below (T.setTop (mkF m pc Ls (.ref b :: rest))) t := by
  obtain ⟨hx, hZ, -⟩ := C
  obtain ⟨-, cl, A, r1, r2, -⟩ := F
  intro t k
  refine X.arraylength hx (by rw [eT]; exact A.1) (State.isArrayOf_alike hZ.alike A.2.1) (g := mkF m pc Ls (.ref b :: rest)) rfl rfl hd t ?_
  have q : cl.slots.size.toInt32 = Int32.ofNat vs.length := by
    rw [r1, List.size_toArray]
  rw [q]; exact k
theorem own_lenI (X : Stand p l e R s m args below meth c T locs cells slots) (C : own_Ctx p s m meth c Z y bytes maxL rt) (eT : T.heap = h) {vs : List Int32} (F : own_AI Z h b ty vs) {pc : Nat} {Ls : Array Slot} {rest : List Value} (hd : decode c.code pc = .ok (.arraylength, 1)) :
    ∀ t, Steps p.tables e below (T.setTop (mkF m (pc + 1) Ls (.int (Int32.ofNat vs.length) :: rest))) t → Steps p.tables e below (T.setTop (mkF m pc Ls (.ref b :: rest))) t := by
  have k := own_len X C eT F (Ls := Ls) (rest := rest) hd
  rwa [List.length_map] at k
theorem own_lenJ (X : Stand p l e R s m args below meth c T locs cells slots) (C : own_Ctx p s m meth c Z y bytes maxL rt) (eT : T.heap = h) {vs : List Int64} (F : own_AJ Z h b ty vs) {pc : Nat} {Ls : Array Slot} {rest : List Value} (hd : decode c.code pc = .ok (.arraylength, 1)) :
    ∀ t, Steps p.tables e below (T.setTop (mkF m (pc + 1) Ls (.int (Int32.ofNat vs.length) :: rest))) t → Steps p.tables e below (T.setTop (mkF m pc Ls (.ref b :: rest))) t := by
  have k := own_len X C eT F (Ls := Ls) (rest := rest) hd
  rwa [List.length_map] at k
theorem own_iastore (X : Stand p l e R s m args below meth c T locs cells slots) (C : own_Ctx p s m meth c Z y bytes maxL rt) (eT : T.heap = h) {vs vs' : List Int32} (F : own_AI Z h b .int vs) {j x : Int32} (g : own_set vs j x = some vs') {pc : Nat} {Ls : Array Slot} {rest : List Value} (hd : decode c.code pc = .ok (.iastore, 1)) :
    ∃ T' h', Stand p l e R s m args below meth c T' (locs ++ [⟨b, j.toNatClampNeg⟩]) cells slots ∧ T'.heap = h' ∧ Wr h h' b j.toNatClampNeg (.int x) ∧ own_AI Z h' b .int vs' ∧
      ∀ t, Steps p.tables e below (T'.setTop (mkF m (pc + 1) Ls rest)) t → Steps p.tables e below (T.setTop (mkF m pc Ls (.int x :: .int j :: .ref b :: rest))) t := by
  obtain ⟨hx, hZ, -⟩ := C
  obtain ⟨cl, A, hin, rfl⟩ := own_A.room F g
  obtain ⟨T', h', X', e', W, st⟩ := stI X hx hZ eT A (j := j) (x := x) hin (g := mkF m pc Ls (.int x :: .int j :: .ref b :: rest)) rfl rfl hd
  refine ⟨T', h', X', e', W, ?_, st⟩
  have k := own_A.set F W rfl
  unfold own_AI
  rwa [List.map_set]
theorem own_lastore (X : Stand p l e R s m args below meth c T locs cells slots) (C : own_Ctx p s m meth c Z y bytes maxL rt) (eT : T.heap = h) {vs vs' : List Int64} (F : own_AJ Z h b .long vs) {j : Int32} {x : Int64} (g : own_set vs j x = some vs') {pc : Nat} {Ls : Array Slot} {rest : List Value} (hd : decode c.code pc = .ok (.lastore, 1)) :
    ∃ T' h', Stand p l e R s m args below meth c T' (locs ++ [⟨b, j.toNatClampNeg⟩]) cells slots ∧ T'.heap = h' ∧ Wr h h' b j.toNatClampNeg (.long x) ∧ own_AJ Z h' b .long vs' ∧
      ∀ t, Steps p.tables e below (T'.setTop (mkF m (pc + 1) Ls rest)) t → Steps p.tables e below (T.setTop (mkF m pc Ls (.long x :: .int j :: .ref b :: rest))) t := by
  obtain ⟨hx, hZ, -⟩ := C
  obtain ⟨cl, A, hin, rfl⟩ := own_A.room F g
  obtain ⟨T', h', X', e', W, st⟩ := stJ X hx hZ eT A (j := j) (x := x) hin (g := mkF m pc Ls (.long x :: .int j :: .ref b :: rest)) rfl rfl hd
  refine ⟨T', h', X', e', W, ?_, st⟩
  have k := own_A.set F W rfl
  unfold own_AJ
  rwa [List.map_set]
theorem own_bastore (X : Stand p l e R s m args below meth c T locs cells slots) (C : own_Ctx p s m meth c Z y bytes maxL rt) (eT : T.heap = h) {vs vs' : List Int32} (F : own_AI Z h b .byte vs) {j x : Int32} (g : own_set vs j (x.toInt8.toInt32) = some vs') {pc : Nat} {Ls : Array Slot} {rest : List Value} (hd : decode c.code pc = .ok (.bastore, 1)) :
    ∃ T' h', Stand p l e R s m args below meth c T' (locs ++ [⟨b, j.toNatClampNeg⟩]) cells slots ∧ T'.heap = h' ∧ Wr h h' b j.toNatClampNeg (.int (x.toInt8.toInt32)) ∧ own_AI Z h' b .byte vs' ∧
      ∀ t, Steps p.tables e below (T'.setTop (mkF m (pc + 1) Ls rest)) t → Steps p.tables e below (T.setTop (mkF m pc Ls (.int x :: .int j :: .ref b :: rest))) t := by
  obtain ⟨hx, hZ, -⟩ := C
  obtain ⟨cl, A, hin, rfl⟩ := own_A.room F g
  obtain ⟨T', h', X', e', W, st⟩ := stB X hx hZ eT A (j := j) (x := x) hin (g := mkF m pc Ls (.int x :: .int j :: .ref b :: rest)) rfl rfl hd
  refine ⟨T', h', X', e', W, ?_, st⟩
  have k := own_A.set F W (fits_nar_byte x)
  unfold own_AI
  rwa [List.map_set]
theorem own_newI (X : Stand p l e R s m args below meth c T locs cells slots) (C : own_Ctx p s m meth c Z y bytes maxL rt) (eT : T.heap = h) {aty : ArrayType} (hk : newarray.typeOf aty = ty) (hdv : defaultValue ty = .int 0) (hfz : fits ty (.int 0) = true) (w : (Cond.arrayClass ty).before a0 Z = true) {n : Int32} (hn : ¬ n < 0) {cap : Nat} (hcap : n.toNatClampNeg ≤ cap) (hb : cap * 8 ≤ 536870912) (hc : cells + 1 ≤ R.cells) (hl : slots + cap ≤ R.slots)
    {pc : Nat} {Ls : Array Slot} {rest : List Value} (hd : decode c.code pc = .ok (.newarray aty, 2)) :
    ∃ T' h' b, Stand p l e R s m args below meth c T' locs (cells + 1) (slots + cap) ∧ T'.heap = h' ∧ Ext h h' ∧ b = h.size ∧ own_AI Z h' b ty (List.replicate n.toNatClampNeg 0) ∧
      ∀ t, Steps p.tables e below (T'.setTop (mkF m (pc + 2) Ls (.ref b :: rest))) t → Steps p.tables e below (T.setTop (mkF m pc Ls (.int n :: rest))) t := by
  obtain ⟨hx, hZ, -⟩ := C
  subst hk
  obtain ⟨T', h', k, X', e', E, A, Q, st⟩ := newPE X hx hZ w eT (g := mkF m pc Ls (.int n :: rest)) rfl hd rfl hn (cap := cap) hcap hb hc hl rfl
  refine ⟨T', h', h.size, X', e', E, rfl, ⟨Q, _, A, ?_, ?_, ?_⟩, st⟩
  · show Array.replicate _ _ = _
    rw [hdv]; simp
  · rw [List.map_replicate, List.length_replicate]; omega
  · intro v hv
    rw [List.map_replicate] at hv
    rw [List.eq_of_mem_replicate hv]
    exact hfz
theorem own_newJ (X : Stand p l e R s m args below meth c T locs cells slots) (C : own_Ctx p s m meth c Z y bytes maxL rt) (eT : T.heap = h) {aty : ArrayType} (hk : newarray.typeOf aty = ty) (hdv : defaultValue ty = .long 0) (hfz : fits ty (.long 0) = true) (w : (Cond.arrayClass ty).before a0 Z = true) {n : Int32} (hn : ¬ n < 0) {cap : Nat} (hcap : n.toNatClampNeg ≤ cap) (hb : cap * 8 ≤ 536870912) (hc : cells + 1 ≤ R.cells) (hl : slots + cap ≤ R.slots)
    {pc : Nat} {Ls : Array Slot} {rest : List Value} (hd : decode c.code pc = .ok (.newarray aty, 2)) :
    ∃ T' h' b, Stand p l e R s m args below meth c T' locs (cells + 1) (slots + cap) ∧ T'.heap = h' ∧ Ext h h' ∧ b = h.size ∧ own_AJ Z h' b ty (List.replicate n.toNatClampNeg 0) ∧
      ∀ t, Steps p.tables e below (T'.setTop (mkF m (pc + 2) Ls (.ref b :: rest))) t → Steps p.tables e below (T.setTop (mkF m pc Ls (.int n :: rest))) t := by
  obtain ⟨hx, hZ, -⟩ := C
  subst hk
  obtain ⟨T', h', k, X', e', E, A, Q, st⟩ := newPE X hx hZ w eT (g := mkF m pc Ls (.int n :: rest)) rfl hd rfl hn (cap := cap) hcap hb hc hl rfl
  refine ⟨T', h', h.size, X', e', E, rfl, ⟨Q, _, A, ?_, ?_, ?_⟩, st⟩
  · show Array.replicate _ _ = _
    rw [hdv]; simp
  · rw [List.map_replicate, List.length_replicate]; omega
  · intro v hv
    rw [List.map_replicate] at hv
    rw [List.eq_of_mem_replicate hv]
    exact hfz
end Own
end Jvm.Pilot.@@N@@
namespace Jvm.Pilot.@@N@@
open Jvm Jvm.ClassFile Sem Op Lib Jvm.Free Jvm.Stand Jvm.LawKit Jvm.RoadKit Bundle Jvm.Pilot.@@N@@.Jvm.D
theorem d1_0 : decode prog_63_method_3_code 0 = .ok (.iload_n 0, 1) := by decide +kernel
theorem d1_1 : decode prog_63_method_3_code 1 = .ok (.bipush 9, 2) := by decide +kernel
theorem d1_3 : decode prog_63_method_3_code 3 = .ok (.if_icmp .eq 51, 3) := by decide +kernel
theorem d1_6 : decode prog_63_method_3_code 6 = .ok (.iload_n 0, 1) := by decide +kernel
theorem d1_7 : decode prog_63_method_3_code 7 = .ok (.bipush 10, 2) := by decide +kernel
theorem d1_9 : decode prog_63_method_3_code 9 = .ok (.if_icmp .eq 45, 3) := by decide +kernel
theorem d1_12 : decode prog_63_method_3_code 12 = .ok (.iload_n 0, 1) := by decide +kernel
theorem d1_13 : decode prog_63_method_3_code 13 = .ok (.bipush 13, 2) := by decide +kernel
theorem d1_15 : decode prog_63_method_3_code 15 = .ok (.if_icmp .eq 39, 3) := by decide +kernel
theorem d1_18 : decode prog_63_method_3_code 18 = .ok (.iload_n 0, 1) := by decide +kernel
theorem d1_19 : decode prog_63_method_3_code 19 = .ok (.bipush 32, 2) := by decide +kernel
theorem d1_21 : decode prog_63_method_3_code 21 = .ok (.if_icmp .lt 9, 3) := by decide +kernel
theorem d1_24 : decode prog_63_method_3_code 24 = .ok (.iload_n 0, 1) := by decide +kernel
theorem d1_25 : decode prog_63_method_3_code 25 = .ok (.ldc 49, 2) := by decide +kernel
theorem d1_27 : decode prog_63_method_3_code 27 = .ok (.if_icmp .le 27, 3) := by decide +kernel
theorem d1_30 : decode prog_63_method_3_code 30 = .ok (.iload_n 0, 1) := by decide +kernel
theorem d1_31 : decode prog_63_method_3_code 31 = .ok (.ldc 50, 2) := by decide +kernel
theorem d1_33 : decode prog_63_method_3_code 33 = .ok (.if_icmp .lt 9, 3) := by decide +kernel
theorem d1_36 : decode prog_63_method_3_code 36 = .ok (.iload_n 0, 1) := by decide +kernel
theorem d1_37 : decode prog_63_method_3_code 37 = .ok (.ldc 51, 2) := by decide +kernel
theorem d1_39 : decode prog_63_method_3_code 39 = .ok (.if_icmp .le 15, 3) := by decide +kernel
theorem d1_42 : decode prog_63_method_3_code 42 = .ok (.iload_n 0, 1) := by decide +kernel
theorem d1_43 : decode prog_63_method_3_code 43 = .ok (.ldc 52, 2) := by decide +kernel
theorem d1_45 : decode prog_63_method_3_code 45 = .ok (.if_icmp .lt 13, 3) := by decide +kernel
theorem d1_48 : decode prog_63_method_3_code 48 = .ok (.iload_n 0, 1) := by decide +kernel
theorem d1_49 : decode prog_63_method_3_code 49 = .ok (.ldc 53, 2) := by decide +kernel
theorem d1_51 : decode prog_63_method_3_code 51 = .ok (.if_icmp .gt 7, 3) := by decide +kernel
theorem d1_54 : decode prog_63_method_3_code 54 = .ok (.iconst 1, 1) := by decide +kernel
theorem d1_55 : decode prog_63_method_3_code 55 = .ok (.goto 4, 3) := by decide +kernel
theorem d1_58 : decode prog_63_method_3_code 58 = .ok (.iconst 0, 1) := by decide +kernel
theorem d1_59 : decode prog_63_method_3_code 59 = .ok (.ireturn, 1) := by decide +kernel
def rmR1 : Room := { frames := 0, cells := 0, slots := 0, locals := 0 }
def f1_42 (x0 : Int32) : Int32 := (if x0 < (65536 : Int32) then (0 : Int32) else (if (1114111 : Int32) < x0 then (0 : Int32) else (1 : Int32)))
set_option maxRecDepth 65536 in
set_option maxHeartbeats 40000000 in
theorem b1_42 {p : Program} {l : Launch} {e : Env} {s : State} {m : MethodId} {args : Array Value} {below : List Frame} {meth : Method} {c : Code} {T : State} {locs : List Loc} {Z : State} {a0 : Array Value} {h0 : Heap} {P : Option Value → Heap → List Loc → Prop} (hw : ∀ d ∈ tables_1, d.before a0 Z = true) (C : own_Ctx p s m meth c Z (⟨"com/example/loomcast/loomcast/StanzaText", "isXmlCharacter", "(I)Z"⟩ : MethodName) prog_63_method_3_code 1 (some .boolean))
    (X : Stand p l e rmR1 s m args below meth c T locs 0 0) (e0 : T.heap = h0) (x0 : Int32) (r : Int32) (hv : f1_42 x0 = r) (hP : P (some (.int r)) h0 locs) :
    own_WP p e below (own_Q s P rmR1.cells rmR1.slots) T (mkF m 42 #[.val (.int x0)] []) := by
  obtain ⟨hx, hZ, hby, hml, hown, hnm, hret, hlk⟩ := id C
  unfold f1_42 at hv
  show own_WP p e below _ T (mkF m 42 #[.val (.int x0)] [])
  refine own_go (fun _ => XS.iloadN X.here hx rfl (hb hby d1_42) rfl) ?_
  show own_WP p e below _ T (mkF m 43 #[.val (.int x0)] [(.int x0)])
  refine own_go (X.ldcInt hx hown (mvT hZ (hw _ (List.mem_of_getElem? (i := 18) rfl))) (g := (mkF m 43 #[.val (.int x0)] [(.int x0)])) rfl (hb hby d1_43)) ?_
  show own_WP p e below _ T (mkF m 45 #[.val (.int x0)] [(.int (65536 : Int32)), (.int x0)])
  by_cases h45 : x0 < (65536 : Int32)
  · replace hv := (if_pos h45).symm.trans hv
    refine own_go (fun _ => XS.icmpYes X.here hx rfl (pc0 := 45) (pc' := 58) rfl (hb hby d1_45) rfl (XT.ii_lt_t h45) (by decide) (by decide)) ?_
    show own_WP p e below _ T (mkF m 58 #[.val (.int x0)] [])
    refine own_go (fun _ => XS.iconst X.here hx rfl (hb hby d1_58)) ?_
    show own_WP p e below _ T (mkF m 59 #[.val (.int x0)] [(.int (0 : Int32))])
    subst hv e0; exact own_retN X C (by simp) (hb hby d1_59) hP (by decide) (by decide)
  · replace hv := (if_neg h45).symm.trans hv
    refine own_go (fun _ => XS.icmpNo X.here hx rfl (hb hby d1_45) rfl (XT.ii_lt_f h45)) ?_
    show own_WP p e below _ T (mkF m 48 #[.val (.int x0)] [])
    refine own_go (fun _ => XS.iloadN X.here hx rfl (hb hby d1_48) rfl) ?_
    show own_WP p e below _ T (mkF m 49 #[.val (.int x0)] [(.int x0)])
    refine own_go (X.ldcInt hx hown (mvT hZ (hw _ (List.mem_of_getElem? (i := 25) rfl))) (g := (mkF m 49 #[.val (.int x0)] [(.int x0)])) rfl (hb hby d1_49)) ?_
    show own_WP p e below _ T (mkF m 51 #[.val (.int x0)] [(.int (1114111 : Int32)), (.int x0)])
    by_cases h51 : (1114111 : Int32) < x0
    · replace hv := (if_pos h51).symm.trans hv
      refine own_go (fun _ => XS.icmpYes X.here hx rfl (pc0 := 51) (pc' := 58) rfl (hb hby d1_51) rfl (XT.ii_gt_t h51) (by decide) (by decide)) ?_
      show own_WP p e below _ T (mkF m 58 #[.val (.int x0)] [])
      refine own_go (fun _ => XS.iconst X.here hx rfl (hb hby d1_58)) ?_
      show own_WP p e below _ T (mkF m 59 #[.val (.int x0)] [(.int (0 : Int32))])
      subst hv e0; exact own_retN X C (by simp) (hb hby d1_59) hP (by decide) (by decide)
    · replace hv := (if_neg h51).symm.trans hv
      refine own_go (fun _ => XS.icmpNo X.here hx rfl (hb hby d1_51) rfl (XT.ii_gt_f h51)) ?_
      show own_WP p e below _ T (mkF m 54 #[.val (.int x0)] [])
      refine own_go (fun _ => XS.iconst X.here hx rfl (hb hby d1_54)) ?_
      show own_WP p e below _ T (mkF m 55 #[.val (.int x0)] [(.int (1 : Int32))])
      refine own_go (fun _ => XS.goto X.here hx rfl (pc0 := 55) (pc' := 59) rfl (hb hby d1_55) (by decide) (by decide)) ?_
      show own_WP p e below _ T (mkF m 59 #[.val (.int x0)] [(.int (1 : Int32))])
      subst hv e0; exact own_retN X C (by simp) (hb hby d1_59) hP (by decide) (by decide)
def f1_30 (x0 : Int32) : Int32 := (if x0 < (57344 : Int32) then (f1_42 x0) else (if (65533 : Int32) < x0 then (f1_42 x0) else (1 : Int32)))
set_option maxRecDepth 65536 in
set_option maxHeartbeats 40000000 in
theorem b1_30 {p : Program} {l : Launch} {e : Env} {s : State} {m : MethodId} {args : Array Value} {below : List Frame} {meth : Method} {c : Code} {T : State} {locs : List Loc} {Z : State} {a0 : Array Value} {h0 : Heap} {P : Option Value → Heap → List Loc → Prop} (hw : ∀ d ∈ tables_1, d.before a0 Z = true) (C : own_Ctx p s m meth c Z (⟨"com/example/loomcast/loomcast/StanzaText", "isXmlCharacter", "(I)Z"⟩ : MethodName) prog_63_method_3_code 1 (some .boolean))
    (X : Stand p l e rmR1 s m args below meth c T locs 0 0) (e0 : T.heap = h0) (x0 : Int32) (r : Int32) (hv : f1_30 x0 = r) (hP : P (some (.int r)) h0 locs) :
    own_WP p e below (own_Q s P rmR1.cells rmR1.slots) T (mkF m 30 #[.val (.int x0)] []) := by
  obtain ⟨hx, hZ, hby, hml, hown, hnm, hret, hlk⟩ := id C
  unfold f1_30 at hv
  show own_WP p e below _ T (mkF m 30 #[.val (.int x0)] [])
  refine own_go (fun _ => XS.iloadN X.here hx rfl (hb hby d1_30) rfl) ?_
  show own_WP p e below _ T (mkF m 31 #[.val (.int x0)] [(.int x0)])
  refine own_go (X.ldcInt hx hown (mvT hZ (hw _ (List.mem_of_getElem? (i := 17) rfl))) (g := (mkF m 31 #[.val (.int x0)] [(.int x0)])) rfl (hb hby d1_31)) ?_
  show own_WP p e below _ T (mkF m 33 #[.val (.int x0)] [(.int (57344 : Int32)), (.int x0)])
  by_cases h33 : x0 < (57344 : Int32)
  · replace hv := (if_pos h33).symm.trans hv
    refine own_go (fun _ => XS.icmpYes X.here hx rfl (pc0 := 33) (pc' := 42) rfl (hb hby d1_33) rfl (XT.ii_lt_t h33) (by decide) (by decide)) ?_
    exact b1_42 hw C X e0 x0 r hv hP
  · replace hv := (if_neg h33).symm.trans hv
    refine own_go (fun _ => XS.icmpNo X.here hx rfl (hb hby d1_33) rfl (XT.ii_lt_f h33)) ?_
    show own_WP p e below _ T (mkF m 36 #[.val (.int x0)] [])
    refine own_go (fun _ => XS.iloadN X.here hx rfl (hb hby d1_36) rfl) ?_
    show own_WP p e below _ T (mkF m 37 #[.val (.int x0)] [(.int x0)])
    refine own_go (X.ldcInt hx hown (mvT hZ (hw _ (List.mem_of_getElem? (i := 24) rfl))) (g := (mkF m 37 #[.val (.int x0)] [(.int x0)])) rfl (hb hby d1_37)) ?_
    show own_WP p e below _ T (mkF m 39 #[.val (.int x0)] [(.int (65533 : Int32)), (.int x0)])
    by_cases h39 : (65533 : Int32) < x0
    · replace hv := (if_pos h39).symm.trans hv
      refine own_go (fun _ => XS.icmpNo X.here hx rfl (hb hby d1_39) rfl (XT.ii_le_f h39)) ?_
      exact b1_42 hw C X e0 x0 r hv hP
    · replace hv := (if_neg h39).symm.trans hv
      refine own_go (fun _ => XS.icmpYes X.here hx rfl (pc0 := 39) (pc' := 54) rfl (hb hby d1_39) rfl (XT.ii_le_t h39) (by decide) (by decide)) ?_
      show own_WP p e below _ T (mkF m 54 #[.val (.int x0)] [])
      refine own_go (fun _ => XS.iconst X.here hx rfl (hb hby d1_54)) ?_
      show own_WP p e below _ T (mkF m 55 #[.val (.int x0)] [(.int (1 : Int32))])
      refine own_go (fun _ => XS.goto X.here hx rfl (pc0 := 55) (pc' := 59) rfl (hb hby d1_55) (by decide) (by decide)) ?_
      show own_WP p e below _ T (mkF m 59 #[.val (.int x0)] [(.int (1 : Int32))])
      subst hv e0; exact own_retN X C (by simp) (hb hby d1_59) hP (by decide) (by decide)
def f1_0 (x0 : Int32) : Int32 := (if x0 = (9 : Int32) then (1 : Int32) else (if x0 = (10 : Int32) then (1 : Int32) else (if x0 = (13 : Int32) then (1 : Int32) else (if x0 < (32 : Int32) then (f1_30 x0) else (if (55295 : Int32) < x0 then (f1_30 x0) else (1 : Int32))))))
set_option maxRecDepth 65536 in
set_option maxHeartbeats 40000000 in
theorem b1_0 {p : Program} {l : Launch} {e : Env} {s : State} {m : MethodId} {args : Array Value} {below : List Frame} {meth : Method} {c : Code} {T : State} {locs : List Loc} {Z : State} {a0 : Array Value} {h0 : Heap} {P : Option Value → Heap → List Loc → Prop} (hw : ∀ d ∈ tables_1, d.before a0 Z = true) (C : own_Ctx p s m meth c Z (⟨"com/example/loomcast/loomcast/StanzaText", "isXmlCharacter", "(I)Z"⟩ : MethodName) prog_63_method_3_code 1 (some .boolean))
    (X : Stand p l e rmR1 s m args below meth c T locs 0 0) (e0 : T.heap = h0) (x0 : Int32) (r : Int32) (hv : f1_0 x0 = r) (hP : P (some (.int r)) h0 locs) :
    own_WP p e below (own_Q s P rmR1.cells rmR1.slots) T (mkF m 0 #[.val (.int x0)] []) := by
  obtain ⟨hx, hZ, hby, hml, hown, hnm, hret, hlk⟩ := id C
  unfold f1_0 at hv
  show own_WP p e below _ T (mkF m 0 #[.val (.int x0)] [])
  refine own_go (fun _ => XS.iloadN X.here hx rfl (hb hby d1_0) rfl) ?_
  show own_WP p e below _ T (mkF m 1 #[.val (.int x0)] [(.int x0)])
  refine own_go (fun _ => XS.bipush X.here hx rfl (hb hby d1_1)) ?_
  show own_WP p e below _ T (mkF m 3 #[.val (.int x0)] [(.int (9 : Int32)), (.int x0)])
  by_cases h3 : x0 = (9 : Int32)
  · replace hv := (if_pos h3).symm.trans hv
    refine own_go (fun _ => XS.icmpYes X.here hx rfl (pc0 := 3) (pc' := 54) rfl (hb hby d1_3) rfl (XT.ii_eq_t h3) (by decide) (by decide)) ?_
    show own_WP p e below _ T (mkF m 54 #[.val (.int x0)] [])
    refine own_go (fun _ => XS.iconst X.here hx rfl (hb hby d1_54)) ?_
    show own_WP p e below _ T (mkF m 55 #[.val (.int x0)] [(.int (1 : Int32))])
    refine own_go (fun _ => XS.goto X.here hx rfl (pc0 := 55) (pc' := 59) rfl (hb hby d1_55) (by decide) (by decide)) ?_
    show own_WP p e below _ T (mkF m 59 #[.val (.int x0)] [(.int (1 : Int32))])
    subst hv e0; exact own_retN X C (by simp) (hb hby d1_59) hP (by decide) (by decide)
  · replace hv := (if_neg h3).symm.trans hv
    refine own_go (fun _ => XS.icmpNo X.here hx rfl (hb hby d1_3) rfl (XT.ii_eq_f h3)) ?_
    show own_WP p e below _ T (mkF m 6 #[.val (.int x0)] [])
    refine own_go (fun _ => XS.iloadN X.here hx rfl (hb hby d1_6) rfl) ?_
    show own_WP p e below _ T (mkF m 7 #[.val (.int x0)] [(.int x0)])
    refine own_go (fun _ => XS.bipush X.here hx rfl (hb hby d1_7)) ?_
    show own_WP p e below _ T (mkF m 9 #[.val (.int x0)] [(.int (10 : Int32)), (.int x0)])
    by_cases h9 : x0 = (10 : Int32)
    · replace hv := (if_pos h9).symm.trans hv
      refine own_go (fun _ => XS.icmpYes X.here hx rfl (pc0 := 9) (pc' := 54) rfl (hb hby d1_9) rfl (XT.ii_eq_t h9) (by decide) (by decide)) ?_
      show own_WP p e below _ T (mkF m 54 #[.val (.int x0)] [])
      refine own_go (fun _ => XS.iconst X.here hx rfl (hb hby d1_54)) ?_
      show own_WP p e below _ T (mkF m 55 #[.val (.int x0)] [(.int (1 : Int32))])
      refine own_go (fun _ => XS.goto X.here hx rfl (pc0 := 55) (pc' := 59) rfl (hb hby d1_55) (by decide) (by decide)) ?_
      show own_WP p e below _ T (mkF m 59 #[.val (.int x0)] [(.int (1 : Int32))])
      subst hv e0; exact own_retN X C (by simp) (hb hby d1_59) hP (by decide) (by decide)
    · replace hv := (if_neg h9).symm.trans hv
      refine own_go (fun _ => XS.icmpNo X.here hx rfl (hb hby d1_9) rfl (XT.ii_eq_f h9)) ?_
      show own_WP p e below _ T (mkF m 12 #[.val (.int x0)] [])
      refine own_go (fun _ => XS.iloadN X.here hx rfl (hb hby d1_12) rfl) ?_
      show own_WP p e below _ T (mkF m 13 #[.val (.int x0)] [(.int x0)])
      refine own_go (fun _ => XS.bipush X.here hx rfl (hb hby d1_13)) ?_
      show own_WP p e below _ T (mkF m 15 #[.val (.int x0)] [(.int (13 : Int32)), (.int x0)])
      by_cases h15 : x0 = (13 : Int32)
      · replace hv := (if_pos h15).symm.trans hv
        refine own_go (fun _ => XS.icmpYes X.here hx rfl (pc0 := 15) (pc' := 54) rfl (hb hby d1_15) rfl (XT.ii_eq_t h15) (by decide) (by decide)) ?_
        show own_WP p e below _ T (mkF m 54 #[.val (.int x0)] [])
        refine own_go (fun _ => XS.iconst X.here hx rfl (hb hby d1_54)) ?_
        show own_WP p e below _ T (mkF m 55 #[.val (.int x0)] [(.int (1 : Int32))])
        refine own_go (fun _ => XS.goto X.here hx rfl (pc0 := 55) (pc' := 59) rfl (hb hby d1_55) (by decide) (by decide)) ?_
        show own_WP p e below _ T (mkF m 59 #[.val (.int x0)] [(.int (1 : Int32))])
        subst hv e0; exact own_retN X C (by simp) (hb hby d1_59) hP (by decide) (by decide)
      · replace hv := (if_neg h15).symm.trans hv
        refine own_go (fun _ => XS.icmpNo X.here hx rfl (hb hby d1_15) rfl (XT.ii_eq_f h15)) ?_
        show own_WP p e below _ T (mkF m 18 #[.val (.int x0)] [])
        refine own_go (fun _ => XS.iloadN X.here hx rfl (hb hby d1_18) rfl) ?_
        show own_WP p e below _ T (mkF m 19 #[.val (.int x0)] [(.int x0)])
        refine own_go (fun _ => XS.bipush X.here hx rfl (hb hby d1_19)) ?_
        show own_WP p e below _ T (mkF m 21 #[.val (.int x0)] [(.int (32 : Int32)), (.int x0)])
        by_cases h21 : x0 < (32 : Int32)
        · replace hv := (if_pos h21).symm.trans hv
          refine own_go (fun _ => XS.icmpYes X.here hx rfl (pc0 := 21) (pc' := 30) rfl (hb hby d1_21) rfl (XT.ii_lt_t h21) (by decide) (by decide)) ?_
          exact b1_30 hw C X e0 x0 r hv hP
        · replace hv := (if_neg h21).symm.trans hv
          refine own_go (fun _ => XS.icmpNo X.here hx rfl (hb hby d1_21) rfl (XT.ii_lt_f h21)) ?_
          show own_WP p e below _ T (mkF m 24 #[.val (.int x0)] [])
          refine own_go (fun _ => XS.iloadN X.here hx rfl (hb hby d1_24) rfl) ?_
          show own_WP p e below _ T (mkF m 25 #[.val (.int x0)] [(.int x0)])
          refine own_go (X.ldcInt hx hown (mvT hZ (hw _ (List.mem_of_getElem? (i := 23) rfl))) (g := (mkF m 25 #[.val (.int x0)] [(.int x0)])) rfl (hb hby d1_25)) ?_
          show own_WP p e below _ T (mkF m 27 #[.val (.int x0)] [(.int (55295 : Int32)), (.int x0)])
          by_cases h27 : (55295 : Int32) < x0
          · replace hv := (if_pos h27).symm.trans hv
            refine own_go (fun _ => XS.icmpNo X.here hx rfl (hb hby d1_27) rfl (XT.ii_le_f h27)) ?_
            exact b1_30 hw C X e0 x0 r hv hP
          · replace hv := (if_neg h27).symm.trans hv
            refine own_go (fun _ => XS.icmpYes X.here hx rfl (pc0 := 27) (pc' := 54) rfl (hb hby d1_27) rfl (XT.ii_le_t h27) (by decide) (by decide)) ?_
            show own_WP p e below _ T (mkF m 54 #[.val (.int x0)] [])
            refine own_go (fun _ => XS.iconst X.here hx rfl (hb hby d1_54)) ?_
            show own_WP p e below _ T (mkF m 55 #[.val (.int x0)] [(.int (1 : Int32))])
            refine own_go (fun _ => XS.goto X.here hx rfl (pc0 := 55) (pc' := 59) rfl (hb hby d1_55) (by decide) (by decide)) ?_
            show own_WP p e below _ T (mkF m 59 #[.val (.int x0)] [(.int (1 : Int32))])
            subst hv e0; exact own_retN X C (by simp) (hb hby d1_59) hP (by decide) (by decide)
theorem ef1 (m : MethodId) (x0 : Int32) : entryFrame m #[(.int x0)] 1 = (mkF m 0 #[.val (.int x0)] []) := by first | (simp [entryFrame, mkF, argsToLocals, Value.category]; done) | rfl
theorem pd1 : parseMethodDescriptor "(I)Z" = some ⟨[.int], some .boolean⟩ := by decide +kernel
theorem pn1 : plainFor (⟨"com/example/loomcast/loomcast/StanzaText", "isXmlCharacter", "(I)Z"⟩ : MethodName) = true := plainFor_of_name (by first | (simp [plainName, overriddenIn]; done) | decide +kernel)
theorem rm1 (l : Launch) (Z : State) (a0 : Array Value) (hw : ∀ d ∈ tables_1, d.before a0 Z = true) (x0 : Int32) (h0 : Heap) : own_Met l Z (⟨"com/example/loomcast/loomcast/StanzaText", "isXmlCharacter", "(I)Z"⟩ : MethodName) prog_63_method_3_code 1 (some .boolean) [] rmR1 #[(.int x0)] h0 (fun v h L => v = some (.int (f1_0 x0)) ∧ L = [] ∧ h = h0) := by
  refine own_body pn1 ?_
  intro p e s m below meth c s₁ C X e0
  exact own_cast (ef1 m x0) (b1_0 hw C X e0 x0 _ rfl ⟨rfl, rfl, rfl⟩)
theorem d2_0 : decode method_2_code 0 = .ok (.iload_n 0, 1) := by decide +kernel
theorem d2_1 : decode method_2_code 1 = .ok (.ifCond .lt 9, 3) := by decide +kernel
theorem d2_4 : decode method_2_code 4 = .ok (.iload_n 0, 1) := by decide +kernel
theorem d2_5 : decode method_2_code 5 = .ok (.ldc 7, 2) := by decide +kernel
theorem d2_7 : decode method_2_code 7 = .ok (.if_icmp .le 5, 3) := by decide +kernel
theorem d2_10 : decode method_2_code 10 = .ok (.iconst 0, 1) := by decide +kernel
theorem d2_11 : decode method_2_code 11 = .ok (.ireturn, 1) := by decide +kernel
theorem d2_12 : decode method_2_code 12 = .ok (.iload_n 0, 1) := by decide +kernel
theorem d2_13 : decode method_2_code 13 = .ok (.bipush 32, 2) := by decide +kernel
theorem d2_15 : decode method_2_code 15 = .ok (.if_icmp .ge 27, 3) := by decide +kernel
theorem d2_18 : decode method_2_code 18 = .ok (.iload_n 0, 1) := by decide +kernel
theorem d2_19 : decode method_2_code 19 = .ok (.bipush 9, 2) := by decide +kernel
theorem d2_21 : decode method_2_code 21 = .ok (.if_icmp .eq 15, 3) := by decide +kernel
theorem d2_24 : decode method_2_code 24 = .ok (.iload_n 0, 1) := by decide +kernel
theorem d2_25 : decode method_2_code 25 = .ok (.bipush 10, 2) := by decide +kernel
theorem d2_27 : decode method_2_code 27 = .ok (.if_icmp .eq 9, 3) := by decide +kernel
theorem d2_30 : decode method_2_code 30 = .ok (.iload_n 0, 1) := by decide +kernel
theorem d2_31 : decode method_2_code 31 = .ok (.bipush 13, 2) := by decide +kernel
theorem d2_33 : decode method_2_code 33 = .ok (.if_icmp .ne 7, 3) := by decide +kernel
theorem d2_36 : decode method_2_code 36 = .ok (.iconst 1, 1) := by decide +kernel
theorem d2_37 : decode method_2_code 37 = .ok (.goto 4, 3) := by decide +kernel
theorem d2_40 : decode method_2_code 40 = .ok (.iconst 0, 1) := by decide +kernel
theorem d2_41 : decode method_2_code 41 = .ok (.ireturn, 1) := by decide +kernel
theorem d2_42 : decode method_2_code 42 = .ok (.iload_n 0, 1) := by decide +kernel
theorem d2_43 : decode method_2_code 43 = .ok (.ldc 8, 2) := by decide +kernel
theorem d2_45 : decode method_2_code 45 = .ok (.if_icmp .lt 11, 3) := by decide +kernel
theorem d2_48 : decode method_2_code 48 = .ok (.iload_n 0, 1) := by decide +kernel
theorem d2_49 : decode method_2_code 49 = .ok (.ldc 9, 2) := by decide +kernel
theorem d2_51 : decode method_2_code 51 = .ok (.if_icmp .gt 5, 3) := by decide +kernel
theorem d2_54 : decode method_2_code 54 = .ok (.iconst 0, 1) := by decide +kernel
theorem d2_55 : decode method_2_code 55 = .ok (.ireturn, 1) := by decide +kernel
theorem d2_56 : decode method_2_code 56 = .ok (.iload_n 0, 1) := by decide +kernel
theorem d2_57 : decode method_2_code 57 = .ok (.ldc 10, 2) := by decide +kernel
theorem d2_59 : decode method_2_code 59 = .ok (.if_icmp .eq 9, 3) := by decide +kernel
theorem d2_62 : decode method_2_code 62 = .ok (.iload_n 0, 1) := by decide +kernel
theorem d2_63 : decode method_2_code 63 = .ok (.ldc 11, 2) := by decide +kernel
theorem d2_65 : decode method_2_code 65 = .ok (.if_icmp .ne 5, 3) := by decide +kernel
theorem d2_68 : decode method_2_code 68 = .ok (.iconst 0, 1) := by decide +kernel
theorem d2_69 : decode method_2_code 69 = .ok (.ireturn, 1) := by decide +kernel
theorem d2_70 : decode method_2_code 70 = .ok (.iconst 1, 1) := by decide +kernel
theorem d2_71 : decode method_2_code 71 = .ok (.ireturn, 1) := by decide +kernel
def rmR2 : Room := { frames := 0, cells := 0, slots := 0, locals := 0 }
def f2_56 (x0 : Int32) : Int32 := (if x0 = (65534 : Int32) then (0 : Int32) else (if x0 = (65535 : Int32) then (0 : Int32) else (1 : Int32)))
set_option maxRecDepth 65536 in
set_option maxHeartbeats 40000000 in
theorem b2_56 {p : Program} {l : Launch} {e : Env} {s : State} {m : MethodId} {args : Array Value} {below : List Frame} {meth : Method} {c : Code} {T : State} {locs : List Loc} {Z : State} {a0 : Array Value} {h0 : Heap} {P : Option Value → Heap → List Loc → Prop} (hw : ∀ d ∈ tables_1, d.before a0 Z = true) (C : own_Ctx p s m meth c Z (⟨"com/example/loomcast/loomcast/StanzaTextIsXmlCharacterPinLaw", "expected", "(I)Z"⟩ : MethodName) method_2_code 1 (some .boolean))
    (X : Stand p l e rmR2 s m args below meth c T locs 0 0) (e0 : T.heap = h0) (x0 : Int32) (r : Int32) (hv : f2_56 x0 = r) (hP : P (some (.int r)) h0 locs) :
    own_WP p e below (own_Q s P rmR2.cells rmR2.slots) T (mkF m 56 #[.val (.int x0)] []) := by
  obtain ⟨hx, hZ, hby, hml, hown, hnm, hret, hlk⟩ := id C
  unfold f2_56 at hv
  show own_WP p e below _ T (mkF m 56 #[.val (.int x0)] [])
  refine own_go (fun _ => XS.iloadN X.here hx rfl (hb hby d2_56) rfl) ?_
  show own_WP p e below _ T (mkF m 57 #[.val (.int x0)] [(.int x0)])
  refine own_go (X.ldcInt hx hown (mvT hZ (hw _ (List.mem_of_getElem? (i := 6) rfl))) (g := (mkF m 57 #[.val (.int x0)] [(.int x0)])) rfl (hb hby d2_57)) ?_
  show own_WP p e below _ T (mkF m 59 #[.val (.int x0)] [(.int (65534 : Int32)), (.int x0)])
  by_cases h59 : x0 = (65534 : Int32)
  · replace hv := (if_pos h59).symm.trans hv
    refine own_go (fun _ => XS.icmpYes X.here hx rfl (pc0 := 59) (pc' := 68) rfl (hb hby d2_59) rfl (XT.ii_eq_t h59) (by decide) (by decide)) ?_
    show own_WP p e below _ T (mkF m 68 #[.val (.int x0)] [])
    refine own_go (fun _ => XS.iconst X.here hx rfl (hb hby d2_68)) ?_
    show own_WP p e below _ T (mkF m 69 #[.val (.int x0)] [(.int (0 : Int32))])
    subst hv e0; exact own_retN X C (by simp) (hb hby d2_69) hP (by decide) (by decide)
  · replace hv := (if_neg h59).symm.trans hv
    refine own_go (fun _ => XS.icmpNo X.here hx rfl (hb hby d2_59) rfl (XT.ii_eq_f h59)) ?_
    show own_WP p e below _ T (mkF m 62 #[.val (.int x0)] [])
    refine own_go (fun _ => XS.iloadN X.here hx rfl (hb hby d2_62) rfl) ?_
    show own_WP p e below _ T (mkF m 63 #[.val (.int x0)] [(.int x0)])
    refine own_go (X.ldcInt hx hown (mvT hZ (hw _ (List.mem_of_getElem? (i := 7) rfl))) (g := (mkF m 63 #[.val (.int x0)] [(.int x0)])) rfl (hb hby d2_63)) ?_
    show own_WP p e below _ T (mkF m 65 #[.val (.int x0)] [(.int (65535 : Int32)), (.int x0)])
    by_cases h65 : x0 = (65535 : Int32)
    · replace hv := (if_pos h65).symm.trans hv
      refine own_go (fun _ => XS.icmpNo X.here hx rfl (hb hby d2_65) rfl (XT.ii_ne_f h65)) ?_
      show own_WP p e below _ T (mkF m 68 #[.val (.int x0)] [])
      refine own_go (fun _ => XS.iconst X.here hx rfl (hb hby d2_68)) ?_
      show own_WP p e below _ T (mkF m 69 #[.val (.int x0)] [(.int (0 : Int32))])
      subst hv e0; exact own_retN X C (by simp) (hb hby d2_69) hP (by decide) (by decide)
    · replace hv := (if_neg h65).symm.trans hv
      refine own_go (fun _ => XS.icmpYes X.here hx rfl (pc0 := 65) (pc' := 70) rfl (hb hby d2_65) rfl (XT.ii_ne_t h65) (by decide) (by decide)) ?_
      show own_WP p e below _ T (mkF m 70 #[.val (.int x0)] [])
      refine own_go (fun _ => XS.iconst X.here hx rfl (hb hby d2_70)) ?_
      show own_WP p e below _ T (mkF m 71 #[.val (.int x0)] [(.int (1 : Int32))])
      subst hv e0; exact own_retN X C (by simp) (hb hby d2_71) hP (by decide) (by decide)
def f2_0 (x0 : Int32) : Int32 := (if x0 < (0 : Int32) then (0 : Int32) else (if (1114111 : Int32) < x0 then (0 : Int32) else (if x0 < (32 : Int32) then (if x0 = (9 : Int32) then (1 : Int32) else (if x0 = (10 : Int32) then (1 : Int32) else (if x0 = (13 : Int32) then (1 : Int32) else (0 : Int32)))) else (if x0 < (55296 : Int32) then (f2_56 x0) else (if (57343 : Int32) < x0 then (f2_56 x0) else (0 : Int32))))))
set_option maxRecDepth 65536 in
set_option maxHeartbeats 40000000 in
theorem b2_0 {p : Program} {l : Launch} {e : Env} {s : State} {m : MethodId} {args : Array Value} {below : List Frame} {meth : Method} {c : Code} {T : State} {locs : List Loc} {Z : State} {a0 : Array Value} {h0 : Heap} {P : Option Value → Heap → List Loc → Prop} (hw : ∀ d ∈ tables_1, d.before a0 Z = true) (C : own_Ctx p s m meth c Z (⟨"com/example/loomcast/loomcast/StanzaTextIsXmlCharacterPinLaw", "expected", "(I)Z"⟩ : MethodName) method_2_code 1 (some .boolean))
    (X : Stand p l e rmR2 s m args below meth c T locs 0 0) (e0 : T.heap = h0) (x0 : Int32) (r : Int32) (hv : f2_0 x0 = r) (hP : P (some (.int r)) h0 locs) :
    own_WP p e below (own_Q s P rmR2.cells rmR2.slots) T (mkF m 0 #[.val (.int x0)] []) := by
  obtain ⟨hx, hZ, hby, hml, hown, hnm, hret, hlk⟩ := id C
  unfold f2_0 at hv
  show own_WP p e below _ T (mkF m 0 #[.val (.int x0)] [])
  refine own_go (fun _ => XS.iloadN X.here hx rfl (hb hby d2_0) rfl) ?_
  show own_WP p e below _ T (mkF m 1 #[.val (.int x0)] [(.int x0)])
  by_cases h1 : x0 < (0 : Int32)
  · replace hv := (if_pos h1).symm.trans hv
    refine own_go (fun _ => XS.ifYes X.here hx rfl (pc0 := 1) (pc' := 10) rfl (hb hby d2_1) rfl (XT.i0_lt_t h1) (by decide) (by decide)) ?_
    show own_WP p e below _ T (mkF m 10 #[.val (.int x0)] [])
    refine own_go (fun _ => XS.iconst X.here hx rfl (hb hby d2_10)) ?_
    show own_WP p e below _ T (mkF m 11 #[.val (.int x0)] [(.int (0 : Int32))])
    subst hv e0; exact own_retN X C (by simp) (hb hby d2_11) hP (by decide) (by decide)
  · replace hv := (if_neg h1).symm.trans hv
    refine own_go (fun _ => XS.ifNo X.here hx rfl (hb hby d2_1) rfl (XT.i0_lt_f h1)) ?_
    show own_WP p e below _ T (mkF m 4 #[.val (.int x0)] [])
    refine own_go (fun _ => XS.iloadN X.here hx rfl (hb hby d2_4) rfl) ?_
    show own_WP p e below _ T (mkF m 5 #[.val (.int x0)] [(.int x0)])
    refine own_go (X.ldcInt hx hown (mvT hZ (hw _ (List.mem_of_getElem? (i := 9) rfl))) (g := (mkF m 5 #[.val (.int x0)] [(.int x0)])) rfl (hb hby d2_5)) ?_
    show own_WP p e below _ T (mkF m 7 #[.val (.int x0)] [(.int (1114111 : Int32)), (.int x0)])
    by_cases h7 : (1114111 : Int32) < x0
    · replace hv := (if_pos h7).symm.trans hv
      refine own_go (fun _ => XS.icmpNo X.here hx rfl (hb hby d2_7) rfl (XT.ii_le_f h7)) ?_
      show own_WP p e below _ T (mkF m 10 #[.val (.int x0)] [])
      refine own_go (fun _ => XS.iconst X.here hx rfl (hb hby d2_10)) ?_
      show own_WP p e below _ T (mkF m 11 #[.val (.int x0)] [(.int (0 : Int32))])
      subst hv e0; exact own_retN X C (by simp) (hb hby d2_11) hP (by decide) (by decide)
    · replace hv := (if_neg h7).symm.trans hv
      refine own_go (fun _ => XS.icmpYes X.here hx rfl (pc0 := 7) (pc' := 12) rfl (hb hby d2_7) rfl (XT.ii_le_t h7) (by decide) (by decide)) ?_
      show own_WP p e below _ T (mkF m 12 #[.val (.int x0)] [])
      refine own_go (fun _ => XS.iloadN X.here hx rfl (hb hby d2_12) rfl) ?_
      show own_WP p e below _ T (mkF m 13 #[.val (.int x0)] [(.int x0)])
      refine own_go (fun _ => XS.bipush X.here hx rfl (hb hby d2_13)) ?_
      show own_WP p e below _ T (mkF m 15 #[.val (.int x0)] [(.int (32 : Int32)), (.int x0)])
      by_cases h15 : x0 < (32 : Int32)
      · replace hv := (if_pos h15).symm.trans hv
        refine own_go (fun _ => XS.icmpNo X.here hx rfl (hb hby d2_15) rfl (XT.ii_ge_f h15)) ?_
        show own_WP p e below _ T (mkF m 18 #[.val (.int x0)] [])
        refine own_go (fun _ => XS.iloadN X.here hx rfl (hb hby d2_18) rfl) ?_
        show own_WP p e below _ T (mkF m 19 #[.val (.int x0)] [(.int x0)])
        refine own_go (fun _ => XS.bipush X.here hx rfl (hb hby d2_19)) ?_
        show own_WP p e below _ T (mkF m 21 #[.val (.int x0)] [(.int (9 : Int32)), (.int x0)])
        by_cases h21 : x0 = (9 : Int32)
        · replace hv := (if_pos h21).symm.trans hv
          refine own_go (fun _ => XS.icmpYes X.here hx rfl (pc0 := 21) (pc' := 36) rfl (hb hby d2_21) rfl (XT.ii_eq_t h21) (by decide) (by decide)) ?_
          show own_WP p e below _ T (mkF m 36 #[.val (.int x0)] [])
          refine own_go (fun _ => XS.iconst X.here hx rfl (hb hby d2_36)) ?_
          show own_WP p e below _ T (mkF m 37 #[.val (.int x0)] [(.int (1 : Int32))])
          refine own_go (fun _ => XS.goto X.here hx rfl (pc0 := 37) (pc' := 41) rfl (hb hby d2_37) (by decide) (by decide)) ?_
          show own_WP p e below _ T (mkF m 41 #[.val (.int x0)] [(.int (1 : Int32))])
          subst hv e0; exact own_retN X C (by simp) (hb hby d2_41) hP (by decide) (by decide)
        · replace hv := (if_neg h21).symm.trans hv
          refine own_go (fun _ => XS.icmpNo X.here hx rfl (hb hby d2_21) rfl (XT.ii_eq_f h21)) ?_
          show own_WP p e below _ T (mkF m 24 #[.val (.int x0)] [])
          refine own_go (fun _ => XS.iloadN X.here hx rfl (hb hby d2_24) rfl) ?_
          show own_WP p e below _ T (mkF m 25 #[.val (.int x0)] [(.int x0)])
          refine own_go (fun _ => XS.bipush X.here hx rfl (hb hby d2_25)) ?_
          show own_WP p e below _ T (mkF m 27 #[.val (.int x0)] [(.int (10 : Int32)), (.int x0)])
          by_cases h27 : x0 = (10 : Int32)
          · replace hv := (if_pos h27).symm.trans hv
            refine own_go (fun _ => XS.icmpYes X.here hx rfl (pc0 := 27) (pc' := 36) rfl (hb hby d2_27) rfl (XT.ii_eq_t h27) (by decide) (by decide)) ?_
            show own_WP p e below _ T (mkF m 36 #[.val (.int x0)] [])
            refine own_go (fun _ => XS.iconst X.here hx rfl (hb hby d2_36)) ?_
            show own_WP p e below _ T (mkF m 37 #[.val (.int x0)] [(.int (1 : Int32))])
            refine own_go (fun _ => XS.goto X.here hx rfl (pc0 := 37) (pc' := 41) rfl (hb hby d2_37) (by decide) (by decide)) ?_
            show own_WP p e below _ T (mkF m 41 #[.val (.int x0)] [(.int (1 : Int32))])
            subst hv e0; exact own_retN X C (by simp) (hb hby d2_41) hP (by decide) (by decide)
          · replace hv := (if_neg h27).symm.trans hv
            refine own_go (fun _ => XS.icmpNo X.here hx rfl (hb hby d2_27) rfl (XT.ii_eq_f h27)) ?_
            show own_WP p e below _ T (mkF m 30 #[.val (.int x0)] [])
            refine own_go (fun _ => XS.iloadN X.here hx rfl (hb hby d2_30) rfl) ?_
            show own_WP p e below _ T (mkF m 31 #[.val (.int x0)] [(.int x0)])
            refine own_go (fun _ => XS.bipush X.here hx rfl (hb hby d2_31)) ?_
            show own_WP p e below _ T (mkF m 33 #[.val (.int x0)] [(.int (13 : Int32)), (.int x0)])
            by_cases h33 : x0 = (13 : Int32)
            · replace hv := (if_pos h33).symm.trans hv
              refine own_go (fun _ => XS.icmpNo X.here hx rfl (hb hby d2_33) rfl (XT.ii_ne_f h33)) ?_
              show own_WP p e below _ T (mkF m 36 #[.val (.int x0)] [])
              refine own_go (fun _ => XS.iconst X.here hx rfl (hb hby d2_36)) ?_
              show own_WP p e below _ T (mkF m 37 #[.val (.int x0)] [(.int (1 : Int32))])
              refine own_go (fun _ => XS.goto X.here hx rfl (pc0 := 37) (pc' := 41) rfl (hb hby d2_37) (by decide) (by decide)) ?_
              show own_WP p e below _ T (mkF m 41 #[.val (.int x0)] [(.int (1 : Int32))])
              subst hv e0; exact own_retN X C (by simp) (hb hby d2_41) hP (by decide) (by decide)
            · replace hv := (if_neg h33).symm.trans hv
              refine own_go (fun _ => XS.icmpYes X.here hx rfl (pc0 := 33) (pc' := 40) rfl (hb hby d2_33) rfl (XT.ii_ne_t h33) (by decide) (by decide)) ?_
              show own_WP p e below _ T (mkF m 40 #[.val (.int x0)] [])
              refine own_go (fun _ => XS.iconst X.here hx rfl (hb hby d2_40)) ?_
              show own_WP p e below _ T (mkF m 41 #[.val (.int x0)] [(.int (0 : Int32))])
              subst hv e0; exact own_retN X C (by simp) (hb hby d2_41) hP (by decide) (by decide)
      · replace hv := (if_neg h15).symm.trans hv
        refine own_go (fun _ => XS.icmpYes X.here hx rfl (pc0 := 15) (pc' := 42) rfl (hb hby d2_15) rfl (XT.ii_ge_t h15) (by decide) (by decide)) ?_
        show own_WP p e below _ T (mkF m 42 #[.val (.int x0)] [])
        refine own_go (fun _ => XS.iloadN X.here hx rfl (hb hby d2_42) rfl) ?_
        show own_WP p e below _ T (mkF m 43 #[.val (.int x0)] [(.int x0)])
        refine own_go (X.ldcInt hx hown (mvT hZ (hw _ (List.mem_of_getElem? (i := 2) rfl))) (g := (mkF m 43 #[.val (.int x0)] [(.int x0)])) rfl (hb hby d2_43)) ?_
        show own_WP p e below _ T (mkF m 45 #[.val (.int x0)] [(.int (55296 : Int32)), (.int x0)])
        by_cases h45 : x0 < (55296 : Int32)
        · replace hv := (if_pos h45).symm.trans hv
          refine own_go (fun _ => XS.icmpYes X.here hx rfl (pc0 := 45) (pc' := 56) rfl (hb hby d2_45) rfl (XT.ii_lt_t h45) (by decide) (by decide)) ?_
          exact b2_56 hw C X e0 x0 r hv hP
        · replace hv := (if_neg h45).symm.trans hv
          refine own_go (fun _ => XS.icmpNo X.here hx rfl (hb hby d2_45) rfl (XT.ii_lt_f h45)) ?_
          show own_WP p e below _ T (mkF m 48 #[.val (.int x0)] [])
          refine own_go (fun _ => XS.iloadN X.here hx rfl (hb hby d2_48) rfl) ?_
          show own_WP p e below _ T (mkF m 49 #[.val (.int x0)] [(.int x0)])
          refine own_go (X.ldcInt hx hown (mvT hZ (hw _ (List.mem_of_getElem? (i := 3) rfl))) (g := (mkF m 49 #[.val (.int x0)] [(.int x0)])) rfl (hb hby d2_49)) ?_
          show own_WP p e below _ T (mkF m 51 #[.val (.int x0)] [(.int (57343 : Int32)), (.int x0)])
          by_cases h51 : (57343 : Int32) < x0
          · replace hv := (if_pos h51).symm.trans hv
            refine own_go (fun _ => XS.icmpYes X.here hx rfl (pc0 := 51) (pc' := 56) rfl (hb hby d2_51) rfl (XT.ii_gt_t h51) (by decide) (by decide)) ?_
            exact b2_56 hw C X e0 x0 r hv hP
          · replace hv := (if_neg h51).symm.trans hv
            refine own_go (fun _ => XS.icmpNo X.here hx rfl (hb hby d2_51) rfl (XT.ii_gt_f h51)) ?_
            show own_WP p e below _ T (mkF m 54 #[.val (.int x0)] [])
            refine own_go (fun _ => XS.iconst X.here hx rfl (hb hby d2_54)) ?_
            show own_WP p e below _ T (mkF m 55 #[.val (.int x0)] [(.int (0 : Int32))])
            subst hv e0; exact own_retN X C (by simp) (hb hby d2_55) hP (by decide) (by decide)
theorem ef2 (m : MethodId) (x0 : Int32) : entryFrame m #[(.int x0)] 1 = (mkF m 0 #[.val (.int x0)] []) := by first | (simp [entryFrame, mkF, argsToLocals, Value.category]; done) | rfl
theorem pd2 : parseMethodDescriptor "(I)Z" = some ⟨[.int], some .boolean⟩ := by decide +kernel
theorem pn2 : plainFor (⟨"com/example/loomcast/loomcast/StanzaTextIsXmlCharacterPinLaw", "expected", "(I)Z"⟩ : MethodName) = true := plainFor_of_name (by first | (simp [plainName, overriddenIn]; done) | decide +kernel)
theorem rm2 (l : Launch) (Z : State) (a0 : Array Value) (hw : ∀ d ∈ tables_1, d.before a0 Z = true) (x0 : Int32) (h0 : Heap) : own_Met l Z (⟨"com/example/loomcast/loomcast/StanzaTextIsXmlCharacterPinLaw", "expected", "(I)Z"⟩ : MethodName) method_2_code 1 (some .boolean) [] rmR2 #[(.int x0)] h0 (fun v h L => v = some (.int (f2_0 x0)) ∧ L = [] ∧ h = h0) := by
  refine own_body pn2 ?_
  intro p e s m below meth c s₁ C X e0
  exact own_cast (ef2 m x0) (b2_0 hw C X e0 x0 _ rfl ⟨rfl, rfl, rfl⟩)
def E0 (Z : State) (h0 : Heap)   (rr : Int32) (v : Option Value) (h : Heap) : Prop := v = some (.int rr)
def f0_128 (x3 : Int32) : Option (Int32) := (if (f1_0 x3) = (f2_0 x3) then (some (1 : Int32)) else (some (0 : Int32)))
set_option maxRecDepth 65536 in
set_option maxHeartbeats 40000000 in
theorem b0_128 {p : Program} {l : Launch} {e : Env} {s : State} {m : MethodId} {args : Array Value} {below : List Frame} {meth : Method} {c : Code} {Z : State} {a0 : Array Value} {h0 : Heap} {n0 : Nat} {P : Option Value → Heap → List Loc → Prop} (hw : ∀ d ∈ tables_1, d.before a0 Z = true) (C : own_Ctx p s m meth c Z x code maxLocals ret) (Z0 : n0 ≤ h0.size)   (rr : Int32) (hP : ∀ v h L, Fr n0 L → Keep h0 h [] → E0 Z h0  rr v h → P v h L)
    {T : State} {locs : List Loc} {h : Heap} {b2 : Nat} {v_b2 : List Int32} (X : Stand p l e room_1 s m args below meth c T locs 1 17) (e0 : T.heap = h) (N : Fr n0 locs) (K : Keep h0 h []) (g_b2 : n0 ≤ b2) (z_b2 : h0.size ≤ b2) (V_b2 : own_AI Z h b2 .int v_b2) (x0 : Int32) (x1 : Int32) (s2 : Slot) (hs2 : One s2) (x3 : Int32) (s4 : Slot) (hs4 : One s4) (hv : f0_128 x3 = some rr) :
    own_WP p e below (own_Q s P room_1.cells room_1.slots) T (mkF m 128 #[.val (.int x0), .val (.int x1), s2, .val (.int x3), s4] []) := by
  obtain ⟨hx, hZ, hby, hml, hown, hnm, hret, hlk⟩ := id C
  replace hown : s.vm.findClass "com/example/loomcast/loomcast/StanzaTextIsXmlCharacterPinLaw" = some m.cls := hown
  unfold f0_128 at hv
  show own_WP p e below _ T (mkF m 128 #[.val (.int x0), .val (.int x1), s2, .val (.int x3), s4] [])
  refine own_go (fun _ => XS.iloadN X.here hx rfl (hb hby at_128) rfl) ?_
  show own_WP p e below _ T (mkF m 129 #[.val (.int x0), .val (.int x1), s2, .val (.int x3), s4] [(.int x3)])
  obtain ⟨T21, v21, L21, X21, ⟨rfl, rfl, e21⟩, st21⟩ := own_callS X C (rm1 l Z a0 hw x3 h) (hw _ (List.mem_of_getElem? (i := 13) rfl)) (hw _ (List.mem_of_getElem? (i := 14) rfl)) (hw _ (List.mem_of_getElem? (i := 15) rfl)) (hw _ (List.mem_of_getElem? (i := 16) rfl)) (by decide) e0 (W := 0) (pc := 129) (Ls := #[.val (.int x0), .val (.int x1), s2, .val (.int x3), s4]) rfl (lenOf pd1 rfl) (rest := []) (stk := [(.int x3)]) rfl (Nat.le_of_ble_eq_true rfl) (hb hby at_129) (by decide) (by decide) (by decide) (by decide)
  rw [List.append_nil] at X21
  refine own_go st21 ?_
  show own_WP p e below _ T21 (mkF m 132 #[.val (.int x0), .val (.int x1), s2, .val (.int x3), s4] [(.int (f1_0 x3))])
  refine own_go (fun _ => XS.iloadN X21.here hx rfl (hb hby at_132) rfl) ?_
  show own_WP p e below _ T21 (mkF m 133 #[.val (.int x0), .val (.int x1), s2, .val (.int x3), s4] [(.int x3), (.int (f1_0 x3))])
  obtain ⟨T22, v22, L22, X22, ⟨rfl, rfl, e22⟩, st22⟩ := own_callS X21 C (rm2 l Z a0 hw x3 h) (hw _ (List.mem_of_getElem? (i := 19) rfl)) (hw _ (List.mem_of_getElem? (i := 20) rfl)) (hw _ (List.mem_of_getElem? (i := 21) rfl)) (hw _ (List.mem_of_getElem? (i := 22) rfl)) (by decide) e21 (W := 1) (pc := 133) (Ls := #[.val (.int x0), .val (.int x1), s2, .val (.int x3), s4]) rfl (lenOf pd2 rfl) (rest := [(.int (f1_0 x3))]) (stk := [(.int x3), (.int (f1_0 x3))]) rfl (Nat.le_of_ble_eq_true rfl) (hb hby at_133) (by decide) (by decide) (by decide) (by decide)
  rw [List.append_nil] at X22
  refine own_go st22 ?_
  show own_WP p e below _ T22 (mkF m 136 #[.val (.int x0), .val (.int x1), s2, .val (.int x3), s4] [(.int (f2_0 x3)), (.int (f1_0 x3))])
  by_cases h136 : (f1_0 x3) = (f2_0 x3)
  · replace hv := (if_pos h136).symm.trans hv
    refine own_go (fun _ => XS.icmpNo X22.here hx rfl (hb hby at_136) rfl (XT.ii_ne_f h136)) ?_
    show own_WP p e below _ T22 (mkF m 139 #[.val (.int x0), .val (.int x1), s2, .val (.int x3), s4] [])
    refine own_go (fun _ => XS.iconst X22.here hx rfl (hb hby at_139)) ?_
    show own_WP p e below _ T22 (mkF m 140 #[.val (.int x0), .val (.int x1), s2, .val (.int x3), s4] [(.int (1 : Int32))])
    refine own_go (fun _ => XS.goto X22.here hx rfl (pc0 := 140) (pc' := 144) rfl (hb hby at_140) (by decide) (by decide)) ?_
    show own_WP p e below _ T22 (mkF m 144 #[.val (.int x0), .val (.int x1), s2, .val (.int x3), s4] [(.int (1 : Int32))])
    obtain rfl := Option.some.inj hv
    subst e22
    exact own_retN X22 C (by simp) (hb hby at_144) (hP _ _ _ N K rfl) (by decide) (by decide)
  · replace hv := (if_neg h136).symm.trans hv
    refine own_go (fun _ => XS.icmpYes X22.here hx rfl (pc0 := 136) (pc' := 143) rfl (hb hby at_136) rfl (XT.ii_ne_t h136) (by decide) (by decide)) ?_
    show own_WP p e below _ T22 (mkF m 143 #[.val (.int x0), .val (.int x1), s2, .val (.int x3), s4] [])
    refine own_go (fun _ => XS.iconst X22.here hx rfl (hb hby at_143)) ?_
    show own_WP p e below _ T22 (mkF m 144 #[.val (.int x0), .val (.int x1), s2, .val (.int x3), s4] [(.int (0 : Int32))])
    obtain rfl := Option.some.inj hv
    subst e22
    exact own_retN X22 C (by simp) (hb hby at_144) (hP _ _ _ N K rfl) (by decide) (by decide)
def f0_0 (x0 : Int32) (x1 : Int32) : Option (Int32) := (if (x1 &&& (1 : Int32)) = (0 : Int32) then (if (Int32.ofNat [(0 : Int32), (9 : Int32), (10 : Int32), (13 : Int32), (32 : Int32), (55295 : Int32), (55296 : Int32), (57343 : Int32), (57344 : Int32), (65533 : Int32), (65534 : Int32), (65535 : Int32), (65536 : Int32), (1114111 : Int32), (1114112 : Int32), (-2147483648 : Int32), (2147483647 : Int32)].length) = (0 : Int32) then none else (own_let ((XT.ushr x1 (1 : Int32)) % (Int32.ofNat [(0 : Int32), (9 : Int32), (10 : Int32), (13 : Int32), (32 : Int32), (55295 : Int32), (55296 : Int32), (57343 : Int32), (57344 : Int32), (65533 : Int32), (65534 : Int32), (65535 : Int32), (65536 : Int32), (1114111 : Int32), (1114112 : Int32), (-2147483648 : Int32), (2147483647 : Int32)].length)) fun y19 => ((own_get [(0 : Int32), (9 : Int32), (10 : Int32), (13 : Int32), (32 : Int32), (55295 : Int32), (55296 : Int32), (57343 : Int32), (57344 : Int32), (65533 : Int32), (65534 : Int32), (65535 : Int32), (65536 : Int32), (1114111 : Int32), (1114112 : Int32), (-2147483648 : Int32), (2147483647 : Int32)] y19).bind fun w20 => (f0_128 (w20 + (x0 % (3 : Int32))))))) else (f0_128 x0))
set_option maxRecDepth 65536 in
set_option maxHeartbeats 40000000 in
theorem b0_0 {p : Program} {l : Launch} {e : Env} {s : State} {m : MethodId} {args : Array Value} {below : List Frame} {meth : Method} {c : Code} {Z : State} {a0 : Array Value} {h0 : Heap} {n0 : Nat} {P : Option Value → Heap → List Loc → Prop} (hw : ∀ d ∈ tables_1, d.before a0 Z = true) (C : own_Ctx p s m meth c Z x code maxLocals ret) (Z0 : n0 ≤ h0.size)   (rr : Int32) (hP : ∀ v h L, Fr n0 L → Keep h0 h [] → E0 Z h0  rr v h → P v h L)
    {T : State} {locs : List Loc} {h : Heap} (X : Stand p l e room_1 s m args below meth c T locs 0 0) (e0 : T.heap = h) (N : Fr n0 locs) (K : Keep h0 h []) (x0 : Int32) (x1 : Int32) (hv : f0_0 x0 x1 = some rr) :
    own_WP p e below (own_Q s P room_1.cells room_1.slots) T (mkF m 0 #[.val (.int x0), .val (.int x1), .unset, .unset, .unset] []) := by
  obtain ⟨hx, hZ, hby, hml, hown, hnm, hret, hlk⟩ := id C
  replace hown : s.vm.findClass "com/example/loomcast/loomcast/StanzaTextIsXmlCharacterPinLaw" = some m.cls := hown
  unfold f0_0 at hv
  show own_WP p e below _ T (mkF m 0 #[.val (.int x0), .val (.int x1), .unset, .unset, .unset] [])
  refine own_go (fun _ => XS.bipush X.here hx rfl (hb hby at_0)) ?_
  show own_WP p e below _ T (mkF m 2 #[.val (.int x0), .val (.int x1), .unset, .unset, .unset] [(.int (17 : Int32))])
  obtain ⟨T1, h1, b2, X1, e1, E1, hb_b2, V_b2, st1⟩ := own_newI X C e0 (aty := .int) (ty := .int) rfl rfl rfl (hw _ (List.mem_of_getElem? (i := 0) rfl)) (n := (17 : Int32)) (by decide) (cap := 17) (by decide) (by decide) (by decide) (by decide) (pc := 2) (Ls := #[.val (.int x0), .val (.int x1), .unset, .unset, .unset]) (rest := []) (hb hby at_2)
  refine own_go st1 ?_
  have g_b2 : n0 ≤ b2 := by have q := K.1; omega
  have z_b2 : h0.size ≤ b2 := by have q := K.1; omega
  replace K := K.ext E1
  replace V_b2 : own_AI Z h1 b2 .int [0, 0, 0, 0, 0, 0, 0, 0, 0, 0, 0, 0, 0, 0, 0, 0, 0] := V_b2
  show own_WP p e below _ T1 (mkF m 4 #[.val (.int x0), .val (.int x1), .unset, .unset, .unset] [(.ref b2)])
  refine own_go (fun _ => XS.dup X1.here hx rfl (hb hby at_4) rfl rfl) ?_
  show own_WP p e below _ T1 (mkF m 5 #[.val (.int x0), .val (.int x1), .unset, .unset, .unset] [(.ref b2), (.ref b2)])
  refine own_go (fun _ => XS.iconst X1.here hx rfl (hb hby at_5)) ?_
  show own_WP p e below _ T1 (mkF m 6 #[.val (.int x0), .val (.int x1), .unset, .unset, .unset] [(.int (0 : Int32)), (.ref b2), (.ref b2)])
  refine own_go (fun _ => XS.iconst X1.here hx rfl (hb hby at_6)) ?_
  show own_WP p e below _ T1 (mkF m 7 #[.val (.int x0), .val (.int x1), .unset, .unset, .unset] [(.int (0 : Int32)), (.int (0 : Int32)), (.ref b2), (.ref b2)])
  obtain ⟨T2, h2, X2, e2, W2, V'2, st2⟩ := own_iastore X1 C e1 V_b2 (vs' := [(0 : Int32), 0, 0, 0, 0, 0, 0, 0, 0, 0, 0, 0, 0, 0, 0, 0, 0]) (j := (0 : Int32)) (x := (0 : Int32)) rfl (hb hby at_7)
  refine own_go st2 ?_
  replace V_b2 := V'2
  clear V'2
  replace K := K.wr W2 (Or.inr (by omega))
  replace N := Fr.snoc X2 N (by omega)
  show own_WP p e below _ T2 (mkF m 8 #[.val (.int x0), .val (.int x1), .unset, .unset, .unset] [(.ref b2)])
  refine own_go (fun _ => XS.dup X2.here hx rfl (hb hby at_8) rfl rfl) ?_
  show own_WP p e below _ T2 (mkF m 9 #[.val (.int x0), .val (.int x1), .unset, .unset, .unset] [(.ref b2), (.ref b2)])
  refine own_go (fun _ => XS.iconst X2.here hx rfl (hb hby at_9)) ?_
  show own_WP p e below _ T2 (mkF m 10 #[.val (.int x0), .val (.int x1), .unset, .unset, .unset] [(.int (1 : Int32)), (.ref b2), (.ref b2)])
  refine own_go (fun _ => XS.bipush X2.here hx rfl (hb hby at_10)) ?_
  show own_WP p e below _ T2 (mkF m 12 #[.val (.int x0), .val (.int x1), .unset, .unset, .unset] [(.int (9 : Int32)), (.int (1 : Int32)), (.ref b2), (.ref b2)])
  obtain ⟨T3, h3, X3, e3, W3, V'3, st3⟩ := own_iastore X2 C e2 V_b2 (vs' := [(0 : Int32), (9 : Int32), 0, 0, 0, 0, 0, 0, 0, 0, 0, 0, 0, 0, 0, 0, 0]) (j := (1 : Int32)) (x := (9 : Int32)) rfl (hb hby at_12)
  refine own_go st3 ?_
  replace V_b2 := V'3
  clear V'3
  replace K := K.wr W3 (Or.inr (by omega))
  replace N := Fr.snoc X3 N (by omega)
  show own_WP p e below _ T3 (mkF m 13 #[.val (.int x0), .val (.int x1), .unset, .unset, .unset] [(.ref b2)])
  refine own_go (fun _ => XS.dup X3.here hx rfl (hb hby at_13) rfl rfl) ?_
  show own_WP p e below _ T3 (mkF m 14 #[.val (.int x0), .val (.int x1), .unset, .unset, .unset] [(.ref b2), (.ref b2)])
  refine own_go (fun _ => XS.iconst X3.here hx rfl (hb hby at_14)) ?_
  show own_WP p e below _ T3 (mkF m 15 #[.val (.int x0), .val (.int x1), .unset, .unset, .unset] [(.int (2 : Int32)), (.ref b2), (.ref b2)])
  refine own_go (fun _ => XS.bipush X3.here hx rfl (hb hby at_15)) ?_
  show own_WP p e below _ T3 (mkF m 17 #[.val (.int x0), .val (.int x1), .unset, .unset, .unset] [(.int (10 : Int32)), (.int (2 : Int32)), (.ref b2), (.ref b2)])
  obtain ⟨T4, h4, X4, e4, W4, V'4, st4⟩ := own_iastore X3 C e3 V_b2 (vs' := [(0 : Int32), (9 : Int32), (10 : Int32), 0, 0, 0, 0, 0, 0, 0, 0, 0, 0, 0, 0, 0, 0]) (j := (2 : Int32)) (x := (10 : Int32)) rfl (hb hby at_17)
  refine own_go st4 ?_
  replace V_b2 := V'4
  clear V'4
  replace K := K.wr W4 (Or.inr (by omega))
  replace N := Fr.snoc X4 N (by omega)
  show own_WP p e below _ T4 (mkF m 18 #[.val (.int x0), .val (.int x1), .unset, .unset, .unset] [(.ref b2)])
  refine own_go (fun _ => XS.dup X4.here hx rfl (hb hby at_18) rfl rfl) ?_
  show own_WP p e below _ T4 (mkF m 19 #[.val (.int x0), .val (.int x1), .unset, .unset, .unset] [(.ref b2), (.ref b2)])
  refine own_go (fun _ => XS.iconst X4.here hx rfl (hb hby at_19)) ?_
  show own_WP p e below _ T4 (mkF m 20 #[.val (.int x0), .val (.int x1), .unset, .unset, .unset] [(.int (3 : Int32)), (.ref b2), (.ref b2)])
  refine own_go (fun _ => XS.bipush X4.here hx rfl (hb hby at_20)) ?_
  show own_WP p e below _ T4 (mkF m 22 #[.val (.int x0), .val (.int x1), .unset, .unset, .unset] [(.int (13 : Int32)), (.int (3 : Int32)), (.ref b2), (.ref b2)])
  obtain ⟨T5, h5, X5, e5, W5, V'5, st5⟩ := own_iastore X4 C e4 V_b2 (vs' := [(0 : Int32), (9 : Int32), (10 : Int32), (13 : Int32), 0, 0, 0, 0, 0, 0, 0, 0, 0, 0, 0, 0, 0]) (j := (3 : Int32)) (x := (13 : Int32)) rfl (hb hby at_22)
  refine own_go st5 ?_
  replace V_b2 := V'5
  clear V'5
  replace K := K.wr W5 (Or.inr (by omega))
  replace N := Fr.snoc X5 N (by omega)
  show own_WP p e below _ T5 (mkF m 23 #[.val (.int x0), .val (.int x1), .unset, .unset, .unset] [(.ref b2)])
  refine own_go (fun _ => XS.dup X5.here hx rfl (hb hby at_23) rfl rfl) ?_
  show own_WP p e below _ T5 (mkF m 24 #[.val (.int x0), .val (.int x1), .unset, .unset, .unset] [(.ref b2), (.ref b2)])
  refine own_go (fun _ => XS.iconst X5.here hx rfl (hb hby at_24)) ?_
  show own_WP p e below _ T5 (mkF m 25 #[.val (.int x0), .val (.int x1), .unset, .unset, .unset] [(.int (4 : Int32)), (.ref b2), (.ref b2)])
  refine own_go (fun _ => XS.bipush X5.here hx rfl (hb hby at_25)) ?_
  show own_WP p e below _ T5 (mkF m 27 #[.val (.int x0), .val (.int x1), .unset, .unset, .unset] [(.int (32 : Int32)), (.int (4 : Int32)), (.ref b2), (.ref b2)])
  obtain ⟨T6, h6, X6, e6, W6, V'6, st6⟩ := own_iastore X5 C e5 V_b2 (vs' := [(0 : Int32), (9 : Int32), (10 : Int32), (13 : Int32), (32 : Int32), 0, 0, 0, 0, 0, 0, 0, 0, 0, 0, 0, 0]) (j := (4 : Int32)) (x := (32 : Int32)) rfl (hb hby at_27)
  refine own_go st6 ?_
  replace V_b2 := V'6
  clear V'6
  replace K := K.wr W6 (Or.inr (by omega))
  replace N := Fr.snoc X6 N (by omega)
  show own_WP p e below _ T6 (mkF m 28 #[.val (.int x0), .val (.int x1), .unset, .unset, .unset] [(.ref b2)])
  refine own_go (fun _ => XS.dup X6.here hx rfl (hb hby at_28) rfl rfl) ?_
  show own_WP p e below _ T6 (mkF m 29 #[.val (.int x0), .val (.int x1), .unset, .unset, .unset] [(.ref b2), (.ref b2)])
  refine own_go (fun _ => XS.iconst X6.here hx rfl (hb hby at_29)) ?_
  show own_WP p e below _ T6 (mkF m 30 #[.val (.int x0), .val (.int x1), .unset, .unset, .unset] [(.int (5 : Int32)), (.ref b2), (.ref b2)])
  refine own_go (X6.ldcInt hx hown (mvT hZ (hw _ (List.mem_of_getElem? (i := 1) rfl))) (g := (mkF m 30 #[.val (.int x0), .val (.int x1), .unset, .unset, .unset] [(.int (5 : Int32)), (.ref b2), (.ref b2)])) rfl (hb hby at_30)) ?_
  show own_WP p e below _ T6 (mkF m 32 #[.val (.int x0), .val (.int x1), .unset, .unset, .unset] [(.int (55295 : Int32)), (.int (5 : Int32)), (.ref b2), (.ref b2)])
  obtain ⟨T7, h7, X7, e7, W7, V'7, st7⟩ := own_iastore X6 C e6 V_b2 (vs' := [(0 : Int32), (9 : Int32), (10 : Int32), (13 : Int32), (32 : Int32), (55295 : Int32), 0, 0, 0, 0, 0, 0, 0, 0, 0, 0, 0]) (j := (5 : Int32)) (x := (55295 : Int32)) rfl (hb hby at_32)
  refine own_go st7 ?_
  replace V_b2 := V'7
  clear V'7
  replace K := K.wr W7 (Or.inr (by omega))
  replace N := Fr.snoc X7 N (by omega)
  show own_WP p e below _ T7 (mkF m 33 #[.val (.int x0), .val (.int x1), .unset, .unset, .unset] [(.ref b2)])
  refine own_go (fun _ => XS.dup X7.here hx rfl (hb hby at_33) rfl rfl) ?_
  show own_WP p e below _ T7 (mkF m 34 #[.val (.int x0), .val (.int x1), .unset, .unset, .unset] [(.ref b2), (.ref b2)])
  refine own_go (fun _ => XS.bipush X7.here hx rfl (hb hby at_34)) ?_
  show own_WP p e below _ T7 (mkF m 36 #[.val (.int x0), .val (.int x1), .unset, .unset, .unset] [(.int (6 : Int32)), (.ref b2), (.ref b2)])
  refine own_go (X7.ldcInt hx hown (mvT hZ (hw _ (List.mem_of_getElem? (i := 2) rfl))) (g := (mkF m 36 #[.val (.int x0), .val (.int x1), .unset, .unset, .unset] [(.int (6 : Int32)), (.ref b2), (.ref b2)])) rfl (hb hby at_36)) ?_
  show own_WP p e below _ T7 (mkF m 38 #[.val (.int x0), .val (.int x1), .unset, .unset, .unset] [(.int (55296 : Int32)), (.int (6 : Int32)), (.ref b2), (.ref b2)])
  obtain ⟨T8, h8, X8, e8, W8, V'8, st8⟩ := own_iastore X7 C e7 V_b2 (vs' := [(0 : Int32), (9 : Int32), (10 : Int32), (13 : Int32), (32 : Int32), (55295 : Int32), (55296 : Int32), 0, 0, 0, 0, 0, 0, 0, 0, 0, 0]) (j := (6 : Int32)) (x := (55296 : Int32)) rfl (hb hby at_38)
  refine own_go st8 ?_
  replace V_b2 := V'8
  clear V'8
  replace K := K.wr W8 (Or.inr (by omega))
  replace N := Fr.snoc X8 N (by omega)
  show own_WP p e below _ T8 (mkF m 39 #[.val (.int x0), .val (.int x1), .unset, .unset, .unset] [(.ref b2)])
  refine own_go (fun _ => XS.dup X8.here hx rfl (hb hby at_39) rfl rfl) ?_
  show own_WP p e below _ T8 (mkF m 40 #[.val (.int x0), .val (.int x1), .unset, .unset, .unset] [(.ref b2), (.ref b2)])
  refine own_go (fun _ => XS.bipush X8.here hx rfl (hb hby at_40)) ?_
  show own_WP p e below _ T8 (mkF m 42 #[.val (.int x0), .val (.int x1), .unset, .unset, .unset] [(.int (7 : Int32)), (.ref b2), (.ref b2)])
  refine own_go (X8.ldcInt hx hown (mvT hZ (hw _ (List.mem_of_getElem? (i := 3) rfl))) (g := (mkF m 42 #[.val (.int x0), .val (.int x1), .unset, .unset, .unset] [(.int (7 : Int32)), (.ref b2), (.ref b2)])) rfl (hb hby at_42)) ?_
  show own_WP p e below _ T8 (mkF m 44 #[.val (.int x0), .val (.int x1), .unset, .unset, .unset] [(.int (57343 : Int32)), (.int (7 : Int32)), (.ref b2), (.ref b2)])
  obtain ⟨T9, h9, X9, e9, W9, V'9, st9⟩ := own_iastore X8 C e8 V_b2 (vs' := [(0 : Int32), (9 : Int32), (10 : Int32), (13 : Int32), (32 : Int32), (55295 : Int32), (55296 : Int32), (57343 : Int32), 0, 0, 0, 0, 0, 0, 0, 0, 0]) (j := (7 : Int32)) (x := (57343 : Int32)) rfl (hb hby at_44)
  refine own_go st9 ?_
  replace V_b2 := V'9
  clear V'9
  replace K := K.wr W9 (Or.inr (by omega))
  replace N := Fr.snoc X9 N (by omega)
  show own_WP p e below _ T9 (mkF m 45 #[.val (.int x0), .val (.int x1), .unset, .unset, .unset] [(.ref b2)])
  refine own_go (fun _ => XS.dup X9.here hx rfl (hb hby at_45) rfl rfl) ?_
  show own_WP p e below _ T9 (mkF m 46 #[.val (.int x0), .val (.int x1), .unset, .unset, .unset] [(.ref b2), (.ref b2)])
  refine own_go (fun _ => XS.bipush X9.here hx rfl (hb hby at_46)) ?_
  show own_WP p e below _ T9 (mkF m 48 #[.val (.int x0), .val (.int x1), .unset, .unset, .unset] [(.int (8 : Int32)), (.ref b2), (.ref b2)])
  refine own_go (X9.ldcInt hx hown (mvT hZ (hw _ (List.mem_of_getElem? (i := 4) rfl))) (g := (mkF m 48 #[.val (.int x0), .val (.int x1), .unset, .unset, .unset] [(.int (8 : Int32)), (.ref b2), (.ref b2)])) rfl (hb hby at_48)) ?_
  show own_WP p e below _ T9 (mkF m 50 #[.val (.int x0), .val (.int x1), .unset, .unset, .unset] [(.int (57344 : Int32)), (.int (8 : Int32)), (.ref b2), (.ref b2)])
  obtain ⟨T10, h10, X10, e10, W10, V'10, st10⟩ := own_iastore X9 C e9 V_b2 (vs' := [(0 : Int32), (9 : Int32), (10 : Int32), (13 : Int32), (32 : Int32), (55295 : Int32), (55296 : Int32), (57343 : Int32), (57344 : Int32), 0, 0, 0, 0, 0, 0, 0, 0]) (j := (8 : Int32)) (x := (57344 : Int32)) rfl (hb hby at_50)
  refine own_go st10 ?_
  replace V_b2 := V'10
  clear V'10
  replace K := K.wr W10 (Or.inr (by omega))
  replace N := Fr.snoc X10 N (by omega)
  show own_WP p e below _ T10 (mkF m 51 #[.val (.int x0), .val (.int x1), .unset, .unset, .unset] [(.ref b2)])
  refine own_go (fun _ => XS.dup X10.here hx rfl (hb hby at_51) rfl rfl) ?_
  show own_WP p e below _ T10 (mkF m 52 #[.val (.int x0), .val (.int x1), .unset, .unset, .unset] [(.ref b2), (.ref b2)])
  refine own_go (fun _ => XS.bipush X10.here hx rfl (hb hby at_52)) ?_
  show own_WP p e below _ T10 (mkF m 54 #[.val (.int x0), .val (.int x1), .unset, .unset, .unset] [(.int (9 : Int32)), (.ref b2), (.ref b2)])
  refine own_go (X10.ldcInt hx hown (mvT hZ (hw _ (List.mem_of_getElem? (i := 5) rfl))) (g := (mkF m 54 #[.val (.int x0), .val (.int x1), .unset, .unset, .unset] [(.int (9 : Int32)), (.ref b2), (.ref b2)])) rfl (hb hby at_54)) ?_
  show own_WP p e below _ T10 (mkF m 56 #[.val (.int x0), .val (.int x1), .unset, .unset, .unset] [(.int (65533 : Int32)), (.int (9 : Int32)), (.ref b2), (.ref b2)])
  obtain ⟨T11, h11, X11, e11, W11, V'11, st11⟩ := own_iastore X10 C e10 V_b2 (vs' := [(0 : Int32), (9 : Int32), (10 : Int32), (13 : Int32), (32 : Int32), (55295 : Int32), (55296 : Int32), (57343 : Int32), (57344 : Int32), (65533 : Int32), 0, 0, 0, 0, 0, 0, 0]) (j := (9 : Int32)) (x := (65533 : Int32)) rfl (hb hby at_56)
  refine own_go st11 ?_
  replace V_b2 := V'11
  clear V'11
  replace K := K.wr W11 (Or.inr (by omega))
  replace N := Fr.snoc X11 N (by omega)
  show own_WP p e below _ T11 (mkF m 57 #[.val (.int x0), .val (.int x1), .unset, .unset, .unset] [(.ref b2)])
  refine own_go (fun _ => XS.dup X11.here hx rfl (hb hby at_57) rfl rfl) ?_
  show own_WP p e below _ T11 (mkF m 58 #[.val (.int x0), .val (.int x1), .unset, .unset, .unset] [(.ref b2), (.ref b2)])
  refine own_go (fun _ => XS.bipush X11.here hx rfl (hb hby at_58)) ?_
  show own_WP p e below _ T11 (mkF m 60 #[.val (.int x0), .val (.int x1), .unset, .unset, .unset] [(.int (10 : Int32)), (.ref b2), (.ref b2)])
  refine own_go (X11.ldcInt hx hown (mvT hZ (hw _ (List.mem_of_getElem? (i := 6) rfl))) (g := (mkF m 60 #[.val (.int x0), .val (.int x1), .unset, .unset, .unset] [(.int (10 : Int32)), (.ref b2), (.ref b2)])) rfl (hb hby at_60)) ?_
  show own_WP p e below _ T11 (mkF m 62 #[.val (.int x0), .val (.int x1), .unset, .unset, .unset] [(.int (65534 : Int32)), (.int (10 : Int32)), (.ref b2), (.ref b2)])
  obtain ⟨T12, h12, X12, e12, W12, V'12, st12⟩ := own_iastore X11 C e11 V_b2 (vs' := [(0 : Int32), (9 : Int32), (10 : Int32), (13 : Int32), (32 : Int32), (55295 : Int32), (55296 : Int32), (57343 : Int32), (57344 : Int32), (65533 : Int32), (65534 : Int32), 0, 0, 0, 0, 0, 0]) (j := (10 : Int32)) (x := (65534 : Int32)) rfl (hb hby at_62)
  refine own_go st12 ?_
  replace V_b2 := V'12
  clear V'12
  replace K := K.wr W12 (Or.inr (by omega))
  replace N := Fr.snoc X12 N (by omega)
  show own_WP p e below _ T12 (mkF m 63 #[.val (.int x0), .val (.int x1), .unset, .unset, .unset] [(.ref b2)])
  refine own_go (fun _ => XS.dup X12.here hx rfl (hb hby at_63) rfl rfl) ?_
  show own_WP p e below _ T12 (mkF m 64 #[.val (.int x0), .val (.int x1), .unset, .unset, .unset] [(.ref b2), (.ref b2)])
  refine own_go (fun _ => XS.bipush X12.here hx rfl (hb hby at_64)) ?_
  show own_WP p e below _ T12 (mkF m 66 #[.val (.int x0), .val (.int x1), .unset, .unset, .unset] [(.int (11 : Int32)), (.ref b2), (.ref b2)])
  refine own_go (X12.ldcInt hx hown (mvT hZ (hw _ (List.mem_of_getElem? (i := 7) rfl))) (g := (mkF m 66 #[.val (.int x0), .val (.int x1), .unset, .unset, .unset] [(.int (11 : Int32)), (.ref b2), (.ref b2)])) rfl (hb hby at_66)) ?_
  show own_WP p e below _ T12 (mkF m 68 #[.val (.int x0), .val (.int x1), .unset, .unset, .unset] [(.int (65535 : Int32)), (.int (11 : Int32)), (.ref b2), (.ref b2)])
  obtain ⟨T13, h13, X13, e13, W13, V'13, st13⟩ := own_iastore X12 C e12 V_b2 (vs' := [(0 : Int32), (9 : Int32), (10 : Int32), (13 : Int32), (32 : Int32), (55295 : Int32), (55296 : Int32), (57343 : Int32), (57344 : Int32), (65533 : Int32), (65534 : Int32), (65535 : Int32), 0, 0, 0, 0, 0]) (j := (11 : Int32)) (x := (65535 : Int32)) rfl (hb hby at_68)
  refine own_go st13 ?_
  replace V_b2 := V'13
  clear V'13
  replace K := K.wr W13 (Or.inr (by omega))
  replace N := Fr.snoc X13 N (by omega)
  show own_WP p e below _ T13 (mkF m 69 #[.val (.int x0), .val (.int x1), .unset, .unset, .unset] [(.ref b2)])
  refine own_go (fun _ => XS.dup X13.here hx rfl (hb hby at_69) rfl rfl) ?_
  show own_WP p e below _ T13 (mkF m 70 #[.val (.int x0), .val (.int x1), .unset, .unset, .unset] [(.ref b2), (.ref b2)])
  refine own_go (fun _ => XS.bipush X13.here hx rfl (hb hby at_70)) ?_
  show own_WP p e below _ T13 (mkF m 72 #[.val (.int x0), .val (.int x1), .unset, .unset, .unset] [(.int (12 : Int32)), (.ref b2), (.ref b2)])
  refine own_go (X13.ldcInt hx hown (mvT hZ (hw _ (List.mem_of_getElem? (i := 8) rfl))) (g := (mkF m 72 #[.val (.int x0), .val (.int x1), .unset, .unset, .unset] [(.int (12 : Int32)), (.ref b2), (.ref b2)])) rfl (hb hby at_72)) ?_
  show own_WP p e below _ T13 (mkF m 74 #[.val (.int x0), .val (.int x1), .unset, .unset, .unset] [(.int (65536 : Int32)), (.int (12 : Int32)), (.ref b2), (.ref b2)])
  obtain ⟨T14, h14, X14, e14, W14, V'14, st14⟩ := own_iastore X13 C e13 V_b2 (vs' := [(0 : Int32), (9 : Int32), (10 : Int32), (13 : Int32), (32 : Int32), (55295 : Int32), (55296 : Int32), (57343 : Int32), (57344 : Int32), (65533 : Int32), (65534 : Int32), (65535 : Int32), (65536 : Int32), 0, 0, 0, 0]) (j := (12 : Int32)) (x := (65536 : Int32)) rfl (hb hby at_74)
  refine own_go st14 ?_
  replace V_b2 := V'14
  clear V'14
  replace K := K.wr W14 (Or.inr (by omega))
  replace N := Fr.snoc X14 N (by omega)
  show own_WP p e below _ T14 (mkF m 75 #[.val (.int x0), .val (.int x1), .unset, .unset, .unset] [(.ref b2)])
  refine own_go (fun _ => XS.dup X14.here hx rfl (hb hby at_75) rfl rfl) ?_
  show own_WP p e below _ T14 (mkF m 76 #[.val (.int x0), .val (.int x1), .unset, .unset, .unset] [(.ref b2), (.ref b2)])
  refine own_go (fun _ => XS.bipush X14.here hx rfl (hb hby at_76)) ?_
  show own_WP p e below _ T14 (mkF m 78 #[.val (.int x0), .val (.int x1), .unset, .unset, .unset] [(.int (13 : Int32)), (.ref b2), (.ref b2)])
  refine own_go (X14.ldcInt hx hown (mvT hZ (hw _ (List.mem_of_getElem? (i := 9) rfl))) (g := (mkF m 78 #[.val (.int x0), .val (.int x1), .unset, .unset, .unset] [(.int (13 : Int32)), (.ref b2), (.ref b2)])) rfl (hb hby at_78)) ?_
  show own_WP p e below _ T14 (mkF m 80 #[.val (.int x0), .val (.int x1), .unset, .unset, .unset] [(.int (1114111 : Int32)), (.int (13 : Int32)), (.ref b2), (.ref b2)])
  obtain ⟨T15, h15, X15, e15, W15, V'15, st15⟩ := own_iastore X14 C e14 V_b2 (vs' := [(0 : Int32), (9 : Int32), (10 : Int32), (13 : Int32), (32 : Int32), (55295 : Int32), (55296 : Int32), (57343 : Int32), (57344 : Int32), (65533 : Int32), (65534 : Int32), (65535 : Int32), (65536 : Int32), (1114111 : Int32), 0, 0, 0]) (j := (13 : Int32)) (x := (1114111 : Int32)) rfl (hb hby at_80)
  refine own_go st15 ?_
  replace V_b2 := V'15
  clear V'15
  replace K := K.wr W15 (Or.inr (by omega))
  replace N := Fr.snoc X15 N (by omega)
  show own_WP p e below _ T15 (mkF m 81 #[.val (.int x0), .val (.int x1), .unset, .unset, .unset] [(.ref b2)])
  refine own_go (fun _ => XS.dup X15.here hx rfl (hb hby at_81) rfl rfl) ?_
  show own_WP p e below _ T15 (mkF m 82 #[.val (.int x0), .val (.int x1), .unset, .unset, .unset] [(.ref b2), (.ref b2)])
  refine own_go (fun _ => XS.bipush X15.here hx rfl (hb hby at_82)) ?_
  show own_WP p e below _ T15 (mkF m 84 #[.val (.int x0), .val (.int x1), .unset, .unset, .unset] [(.int (14 : Int32)), (.ref b2), (.ref b2)])
  refine own_go (X15.ldcInt hx hown (mvT hZ (hw _ (List.mem_of_getElem? (i := 10) rfl))) (g := (mkF m 84 #[.val (.int x0), .val (.int x1), .unset, .unset, .unset] [(.int (14 : Int32)), (.ref b2), (.ref b2)])) rfl (hb hby at_84)) ?_
  show own_WP p e below _ T15 (mkF m 86 #[.val (.int x0), .val (.int x1), .unset, .unset, .unset] [(.int (1114112 : Int32)), (.int (14 : Int32)), (.ref b2), (.ref b2)])
  obtain ⟨T16, h16, X16, e16, W16, V'16, st16⟩ := own_iastore X15 C e15 V_b2 (vs' := [(0 : Int32), (9 : Int32), (10 : Int32), (13 : Int32), (32 : Int32), (55295 : Int32), (55296 : Int32), (57343 : Int32), (57344 : Int32), (65533 : Int32), (65534 : Int32), (65535 : Int32), (65536 : Int32), (1114111 : Int32), (1114112 : Int32), 0, 0]) (j := (14 : Int32)) (x := (1114112 : Int32)) rfl (hb hby at_86)
  refine own_go st16 ?_
  replace V_b2 := V'16
  clear V'16
  replace K := K.wr W16 (Or.inr (by omega))
  replace N := Fr.snoc X16 N (by omega)
  show own_WP p e below _ T16 (mkF m 87 #[.val (.int x0), .val (.int x1), .unset, .unset, .unset] [(.ref b2)])
  refine own_go (fun _ => XS.dup X16.here hx rfl (hb hby at_87) rfl rfl) ?_
  show own_WP p e below _ T16 (mkF m 88 #[.val (.int x0), .val (.int x1), .unset, .unset, .unset] [(.ref b2), (.ref b2)])
  refine own_go (fun _ => XS.bipush X16.here hx rfl (hb hby at_88)) ?_
  show own_WP p e below _ T16 (mkF m 90 #[.val (.int x0), .val (.int x1), .unset, .unset, .unset] [(.int (15 : Int32)), (.ref b2), (.ref b2)])
  refine own_go (X16.ldcInt hx hown (mvT hZ (hw _ (List.mem_of_getElem? (i := 11) rfl))) (g := (mkF m 90 #[.val (.int x0), .val (.int x1), .unset, .unset, .unset] [(.int (15 : Int32)), (.ref b2), (.ref b2)])) rfl (hb hby at_90)) ?_
  show own_WP p e below _ T16 (mkF m 92 #[.val (.int x0), .val (.int x1), .unset, .unset, .unset] [(.int (-2147483648 : Int32)), (.int (15 : Int32)), (.ref b2), (.ref b2)])
  obtain ⟨T17, h17, X17, e17, W17, V'17, st17⟩ := own_iastore X16 C e16 V_b2 (vs' := [(0 : Int32), (9 : Int32), (10 : Int32), (13 : Int32), (32 : Int32), (55295 : Int32), (55296 : Int32), (57343 : Int32), (57344 : Int32), (65533 : Int32), (65534 : Int32), (65535 : Int32), (65536 : Int32), (1114111 : Int32), (1114112 : Int32), (-2147483648 : Int32), 0]) (j := (15 : Int32)) (x := (-2147483648 : Int32)) rfl (hb hby at_92)
  refine own_go st17 ?_
  replace V_b2 := V'17
  clear V'17
  replace K := K.wr W17 (Or.inr (by omega))
  replace N := Fr.snoc X17 N (by omega)
  show own_WP p e below _ T17 (mkF m 93 #[.val (.int x0), .val (.int x1), .unset, .unset, .unset] [(.ref b2)])
  refine own_go (fun _ => XS.dup X17.here hx rfl (hb hby at_93) rfl rfl) ?_
  show own_WP p e below _ T17 (mkF m 94 #[.val (.int x0), .val (.int x1), .unset, .unset, .unset] [(.ref b2), (.ref b2)])
  refine own_go (fun _ => XS.bipush X17.here hx rfl (hb hby at_94)) ?_
  show own_WP p e below _ T17 (mkF m 96 #[.val (.int x0), .val (.int x1), .unset, .unset, .unset] [(.int (16 : Int32)), (.ref b2), (.ref b2)])
  refine own_go (X17.ldcInt hx hown (mvT hZ (hw _ (List.mem_of_getElem? (i := 12) rfl))) (g := (mkF m 96 #[.val (.int x0), .val (.int x1), .unset, .unset, .unset] [(.int (16 : Int32)), (.ref b2), (.ref b2)])) rfl (hb hby at_96)) ?_
  show own_WP p e below _ T17 (mkF m 98 #[.val (.int x0), .val (.int x1), .unset, .unset, .unset] [(.int (2147483647 : Int32)), (.int (16 : Int32)), (.ref b2), (.ref b2)])
  obtain ⟨T18, h18, X18, e18, W18, V'18, st18⟩ := own_iastore X17 C e17 V_b2 (vs' := [(0 : Int32), (9 : Int32), (10 : Int32), (13 : Int32), (32 : Int32), (55295 : Int32), (55296 : Int32), (57343 : Int32), (57344 : Int32), (65533 : Int32), (65534 : Int32), (65535 : Int32), (65536 : Int32), (1114111 : Int32), (1114112 : Int32), (-2147483648 : Int32), (2147483647 : Int32)]) (j := (16 : Int32)) (x := (2147483647 : Int32)) rfl (hb hby at_98)
  refine own_go st18 ?_
  replace V_b2 := V'18
  clear V'18
  replace K := K.wr W18 (Or.inr (by omega))
  replace N := Fr.snoc X18 N (by omega)
  show own_WP p e below _ T18 (mkF m 99 #[.val (.int x0), .val (.int x1), .unset, .unset, .unset] [(.ref b2)])
  refine own_go (fun _ => XS.astoreN X18.here hx rfl (hb hby at_99) rfl rfl (l' := #[.val (.int x0), .val (.int x1), .val (.ref b2), .unset, .unset]) rfl) ?_
  show own_WP p e below _ T18 (mkF m 100 #[.val (.int x0), .val (.int x1), .val (.ref b2), .unset, .unset] [])
  refine own_go (fun _ => XS.iloadN X18.here hx rfl (hb hby at_100) rfl) ?_
  show own_WP p e below _ T18 (mkF m 101 #[.val (.int x0), .val (.int x1), .val (.ref b2), .unset, .unset] [(.int x1)])
  refine own_go (fun _ => XS.iconst X18.here hx rfl (hb hby at_101)) ?_
  show own_WP p e below _ T18 (mkF m 102 #[.val (.int x0), .val (.int x1), .val (.ref b2), .unset, .unset] [(.int (1 : Int32)), (.int x1)])
  refine own_go (fun _ => XS.iand X18.here hx rfl (hb hby at_102) rfl) ?_
  show own_WP p e below _ T18 (mkF m 103 #[.val (.int x0), .val (.int x1), .val (.ref b2), .unset, .unset] [(.int (x1 &&& (1 : Int32)))])
  by_cases h103 : (x1 &&& (1 : Int32)) = (0 : Int32)
  · replace hv := (if_pos h103).symm.trans hv
    refine own_go (fun _ => XS.ifYes X18.here hx rfl (pc0 := 103) (pc' := 111) rfl (hb hby at_103) rfl (XT.i0_eq_t h103) (by decide) (by decide)) ?_
    show own_WP p e below _ T18 (mkF m 111 #[.val (.int x0), .val (.int x1), .val (.ref b2), .unset, .unset] [])
    refine own_go (fun _ => XS.iloadN X18.here hx rfl (hb hby at_111) rfl) ?_
    show own_WP p e below _ T18 (mkF m 112 #[.val (.int x0), .val (.int x1), .val (.ref b2), .unset, .unset] [(.int x1)])
    refine own_go (fun _ => XS.iconst X18.here hx rfl (hb hby at_112)) ?_
    show own_WP p e below _ T18 (mkF m 113 #[.val (.int x0), .val (.int x1), .val (.ref b2), .unset, .unset] [(.int (1 : Int32)), (.int x1)])
    refine own_go (fun _ => XT.iushr X18.here hx rfl (hb hby at_113) rfl) ?_
    show own_WP p e below _ T18 (mkF m 114 #[.val (.int x0), .val (.int x1), .val (.ref b2), .unset, .unset] [(.int (XT.ushr x1 (1 : Int32)))])
    refine own_go (fun _ => XS.aloadN X18.here hx rfl (hb hby at_114) rfl rfl) ?_
    show own_WP p e below _ T18 (mkF m 115 #[.val (.int x0), .val (.int x1), .val (.ref b2), .unset, .unset] [(.ref b2), (.int (XT.ushr x1 (1 : Int32)))])
    refine own_go (own_lenI X18 C e18 V_b2 (hb hby at_115)) ?_
    show own_WP p e below _ T18 (mkF m 116 #[.val (.int x0), .val (.int x1), .val (.ref b2), .unset, .unset] [(.int (Int32.ofNat [(0 : Int32), (9 : Int32), (10 : Int32), (13 : Int32), (32 : Int32), (55295 : Int32), (55296 : Int32), (57343 : Int32), (57344 : Int32), (65533 : Int32), (65534 : Int32), (65535 : Int32), (65536 : Int32), (1114111 : Int32), (1114112 : Int32), (-2147483648 : Int32), (2147483647 : Int32)].length)), (.int (XT.ushr x1 (1 : Int32)))])
    by_cases h116 : (Int32.ofNat [(0 : Int32), (9 : Int32), (10 : Int32), (13 : Int32), (32 : Int32), (55295 : Int32), (55296 : Int32), (57343 : Int32), (57344 : Int32), (65533 : Int32), (65534 : Int32), (65535 : Int32), (65536 : Int32), (1114111 : Int32), (1114112 : Int32), (-2147483648 : Int32), (2147483647 : Int32)].length) = (0 : Int32)
    · cases ((if_pos h116).symm.trans hv)
    replace hv := (if_neg h116).symm.trans hv
    refine own_go (fun _ => iremM X18 hx rfl (hb hby at_116) rfl h116) ?_
    show own_WP p e below _ T18 (mkF m 117 #[.val (.int x0), .val (.int x1), .val (.ref b2), .unset, .unset] [(.int ((XT.ushr x1 (1 : Int32)) % (Int32.ofNat [(0 : Int32), (9 : Int32), (10 : Int32), (13 : Int32), (32 : Int32), (55295 : Int32), (55296 : Int32), (57343 : Int32), (57344 : Int32), (65533 : Int32), (65534 : Int32), (65535 : Int32), (65536 : Int32), (1114111 : Int32), (1114112 : Int32), (-2147483648 : Int32), (2147483647 : Int32)].length)))])
    generalize ((XT.ushr x1 (1 : Int32)) % (Int32.ofNat [(0 : Int32), (9 : Int32), (10 : Int32), (13 : Int32), (32 : Int32), (55295 : Int32), (55296 : Int32), (57343 : Int32), (57344 : Int32), (65533 : Int32), (65534 : Int32), (65535 : Int32), (65536 : Int32), (1114111 : Int32), (1114112 : Int32), (-2147483648 : Int32), (2147483647 : Int32)].length)) = y19 at hv ⊢
    replace hv := own_letE hv
    show own_WP p e below _ T18 (mkF m 117 #[.val (.int x0), .val (.int x1), .val (.ref b2), .unset, .unset] [(.int y19)])
    refine own_go (fun _ => XS.istore X18.here hx rfl (hb hby at_117) rfl (l' := #[.val (.int x0), .val (.int x1), .val (.ref b2), .unset, .val (.int y19)]) rfl) ?_
    show own_WP p e below _ T18 (mkF m 119 #[.val (.int x0), .val (.int x1), .val (.ref b2), .unset, .val (.int y19)] [])
    refine own_go (fun _ => XS.aloadN X18.here hx rfl (hb hby at_119) rfl rfl) ?_
    show own_WP p e below _ T18 (mkF m 120 #[.val (.int x0), .val (.int x1), .val (.ref b2), .unset, .val (.int y19)] [(.ref b2)])
    refine own_go (fun _ => XS.iload X18.here hx rfl (hb hby at_120) rfl) ?_
    show own_WP p e below _ T18 (mkF m 122 #[.val (.int x0), .val (.int x1), .val (.ref b2), .unset, .val (.int y19)] [(.int y19), (.ref b2)])
    obtain ⟨w20, hg20, hv⟩ := own_bind hv
    refine own_go (own_iaload X18 C e18 V_b2 hg20 (hb hby at_122)) ?_
    show own_WP p e below _ T18 (mkF m 123 #[.val (.int x0), .val (.int x1), .val (.ref b2), .unset, .val (.int y19)] [(.int w20)])
    refine own_go (fun _ => XS.iloadN X18.here hx rfl (hb hby at_123) rfl) ?_
    show own_WP p e below _ T18 (mkF m 124 #[.val (.int x0), .val (.int x1), .val (.ref b2), .unset, .val (.int y19)] [(.int x0), (.int w20)])
    refine own_go (fun _ => XS.iconst X18.here hx rfl (hb hby at_124)) ?_
    show own_WP p e below _ T18 (mkF m 125 #[.val (.int x0), .val (.int x1), .val (.ref b2), .unset, .val (.int y19)] [(.int (3 : Int32)), (.int x0), (.int w20)])
    refine own_go (fun _ => iremM X18 hx rfl (hb hby at_125) rfl (by decide)) ?_
    show own_WP p e below _ T18 (mkF m 126 #[.val (.int x0), .val (.int x1), .val (.ref b2), .unset, .val (.int y19)] [(.int (x0 % (3 : Int32))), (.int w20)])
    refine own_go (fun _ => XS.iadd X18.here hx rfl (hb hby at_126) rfl) ?_
    show own_WP p e below _ T18 (mkF m 127 #[.val (.int x0), .val (.int x1), .val (.ref b2), .unset, .val (.int y19)] [(.int (w20 + (x0 % (3 : Int32))))])
    refine own_go (fun _ => XS.istoreN X18.here hx rfl (hb hby at_127) rfl (l' := #[.val (.int x0), .val (.int x1), .val (.ref b2), .val (.int (w20 + (x0 % (3 : Int32)))), .val (.int y19)]) rfl) ?_
    exact b0_128 hw C Z0 rr hP X18 e18 N K g_b2 z_b2 V_b2 x0 x1 (.val (.ref b2)) (One.val rfl) (w20 + (x0 % (3 : Int32))) (.val (.int y19)) (One.val rfl) hv
  · replace hv := (if_neg h103).symm.trans hv
    refine own_go (fun _ => XS.ifNo X18.here hx rfl (hb hby at_103) rfl (XT.i0_eq_f h103)) ?_
    show own_WP p e below _ T18 (mkF m 106 #[.val (.int x0), .val (.int x1), .val (.ref b2), .unset, .unset] [])
    refine own_go (fun _ => XS.iloadN X18.here hx rfl (hb hby at_106) rfl) ?_
    show own_WP p e below _ T18 (mkF m 107 #[.val (.int x0), .val (.int x1), .val (.ref b2), .unset, .unset] [(.int x0)])
    refine own_go (fun _ => XS.istoreN X18.here hx rfl (hb hby at_107) rfl (l' := #[.val (.int x0), .val (.int x1), .val (.ref b2), .val (.int x0), .unset]) rfl) ?_
    show own_WP p e below _ T18 (mkF m 108 #[.val (.int x0), .val (.int x1), .val (.ref b2), .val (.int x0), .unset] [])
    refine own_go (fun _ => XS.goto X18.here hx rfl (pc0 := 108) (pc' := 128) rfl (hb hby at_108) (by decide) (by decide)) ?_
    exact b0_128 hw C Z0 rr hP X18 e18 N K g_b2 z_b2 V_b2 x0 x1 (.val (.ref b2)) (One.val rfl) x0 (.unset) One.u hv
theorem ef0 (m : MethodId) (x0 : Int32) (x1 : Int32) : entryFrame m #[(.int x0), (.int x1)] maxLocals = (mkF m 0 #[.val (.int x0), .val (.int x1), .unset, .unset, .unset] []) := by first | (simp [entryFrame, mkF, argsToLocals, Value.category, maxLocals]; done) | rfl
theorem pn0 : plainFor x = true := plainFor_of_name (by first | (simp [plainName, overriddenIn, x]; done) | decide +kernel)
set_option maxHeartbeats 40000000 in
theorem own_same (c : Int32) : f1_0 c = f2_0 c := by
  simp only [f1_0, f1_30, f1_42, f2_0, f2_56, Int32.lt_iff_toInt_lt, ← Int32.toInt_inj]
  have q0 : (0 : Int32).toInt = 0 := rfl
  have q1 : (1 : Int32).toInt = 1 := rfl
  have q9 : (9 : Int32).toInt = 9 := rfl
  have q10 : (10 : Int32).toInt = 10 := rfl
  have q13 : (13 : Int32).toInt = 13 := rfl
  have q32 : (32 : Int32).toInt = 32 := rfl
  have qa : (55295 : Int32).toInt = 55295 := rfl
  have qb : (55296 : Int32).toInt = 55296 := rfl
  have qc : (57343 : Int32).toInt = 57343 := rfl
  have qd : (57344 : Int32).toInt = 57344 := rfl
  have qe : (65533 : Int32).toInt = 65533 := rfl
  have qf : (65534 : Int32).toInt = 65534 := rfl
  have qg : (65535 : Int32).toInt = 65535 := rfl
  have qh : (65536 : Int32).toInt = 65536 := rfl
  have qi : (1114111 : Int32).toInt = 1114111 := rfl
  simp only [q0, q9, q10, q13, q32, qa, qb, qc, qd, qe, qf, qg, qh, qi]
  generalize c.toInt = n
  repeat' split
  all_goals first | rfl | (exfalso; omega)
theorem own_128 (c : Int32) : f0_128 c = some 1 := by
  unfold f0_128
  rw [own_same, if_pos rfl]
theorem own_getOk {α : Type} (vs : List α) (j : Int32) (h0 : 0 ≤ j.toInt) (h1 : j.toInt < (vs.length : Int)) : ∃ w, own_get vs j = some w := by
  unfold own_get
  have e : j.toNatClampNeg = j.toInt.toNat := rfl
  have hlt : j.toNatClampNeg < vs.length := by rw [e]; omega
  rw [if_neg]
  · exact ⟨vs[j.toNatClampNeg], List.getElem?_eq_getElem hlt⟩
  · rw [Int32.lt_iff_toInt_lt]
    show ¬ j.toInt < 0
    omega
theorem own_half (x : Int32) : 0 ≤ (XT.ushr x (1 : Int32)).toInt := by
  have e : (XT.ushr x (1 : Int32)).toBitVec = x.toBitVec >>> 1 := rfl
  have i : (XT.ushr x (1 : Int32)).toInt = (XT.ushr x (1 : Int32)).toBitVec.toInt := rfl
  have b := x.toBitVec.isLt
  rw [i, e, BitVec.toInt_eq_toNat_cond, BitVec.toNat_ushiftRight, Nat.shiftRight_eq_div_pow]
  split <;> omega
theorem own_rem (x : Int32) (h : 0 ≤ x.toInt) : 0 ≤ (x % (17 : Int32)).toInt ∧ (x % (17 : Int32)).toInt < 17 := by
  have e : (17 : Int32).toInt = 17 := rfl
  rw [Int32.toInt_mod, e, Int.tmod_eq_emod_of_nonneg h]
  omega
theorem plain0 (x0 x1 : Int32) : f0_0 x0 x1 = some 1 := by
  unfold f0_0
  split
  · rw [if_neg (by decide)]
    unfold own_let
    dsimp only
    obtain ⟨h0, h1⟩ := own_rem _ (own_half x1)
    obtain ⟨w, hw⟩ := own_getOk [(0 : Int32), (9 : Int32), (10 : Int32), (13 : Int32), (32 : Int32), (55295 : Int32), (55296 : Int32), (57343 : Int32), (57344 : Int32), (65533 : Int32), (65534 : Int32), (65535 : Int32), (65536 : Int32), (1114111 : Int32), (1114112 : Int32), (-2147483648 : Int32), (2147483647 : Int32)] ((XT.ushr x1 (1 : Int32)) % (17 : Int32)) h0 h1
    have e : Int32.ofNat [(0 : Int32), (9 : Int32), (10 : Int32), (13 : Int32), (32 : Int32), (55295 : Int32), (55296 : Int32), (57343 : Int32), (57344 : Int32), (65533 : Int32), (65534 : Int32), (65535 : Int32), (65536 : Int32), (1114111 : Int32), (1114112 : Int32), (-2147483648 : Int32), (2147483647 : Int32)].length = 17 := rfl
    rw [e, hw]
    exact own_128 _
  · exact own_128 _
theorem rm0 (l : Launch) (Z : State) (a0 : Array Value) (hw : ∀ d ∈ tables_1, d.before a0 Z = true) (ws : List Jvm.Cond) (x0 : Int32) (x1 : Int32) (h0 : Heap) : own_Met l Z x code maxLocals ret ws room_1 #[(.int x0), (.int x1)] h0 (fun v h L => v = some (.int 1) ∧ Fr h0.size L) := by
  refine own_body pn0 ?_
  intro p e s m below meth c s₁ C X e0
  exact own_cast (ef0 m x0 x1) (b0_0 hw C (Nat.le_refl h0.size) (1 : Int32) (fun v h L a b c => ⟨c, a⟩) X e0 (Fr.nil _) (Keep.refl h0 []) x0 x1 (plain0 x0 x1))
set_option maxRecDepth 65536 in
set_option maxHeartbeats 40000000 in
theorem comes_1 {Post : Tables → Env → Array Value → State → Outcome → State → Prop} (hpost : ∀ tb e args s v u, (limb_1_1.after args s (.returned v) u = true ∧ limb_1_2.after args s (.returned v) u = true ∧ True) → FrameEnd s (.returned v) u (Jvm.fieldLocs frame_1_writes args s ++ Jvm.arrayLocs frame_1_arrays args s ++ Jvm.staticLocs frame_1_statics s) 16 128 → Post tb e args s (.returned v) u) :
    ArmFor flags0 classFile x code maxLocals ret World_1 tables_1 room_1 Calls_1 rest_1 Pre_1 Post := by
  intro l hfl _ _ p e ha hc hk s m args below hf hA hF happ hP
  obtain ⟨hcalls, hrest, hpre⟩ := hP
  obtain ⟨-, -, -, hnamed, -, -, -, hat⟩ := (Spec.applies_iff hf).mp happ
  obtain ⟨hg, hn⟩ := and_e (Cond.before_iff.mp (show (Jvm.Cond.and given_1 narrow_1).before args s = true from hpre))
  obtain ⟨hcnt, hg0⟩ := and_e hg
  obtain ⟨ha0, hg1⟩ := and_e hg0
  have ha1 := hg1
  obtain ⟨w0, w1, rfl⟩ : ∃ w0 w1 : Value, args = #[w0, w1] := by
    have hs : args.size = 2 := by simpa [Cond.value, given_1] using hcnt
    obtain ⟨L⟩ := args
    match L, hs with
    | [w0, w1], _ => exact ⟨w0, w1, rfl⟩
  have hw := fun d (hd : d ∈ tables_1) => atoms_spec (ws := Jvm.Cond.code x code maxLocals ret :: tables_1) hat d (List.mem_cons_of_mem _ hd)
  obtain ⟨i0, ei0⟩ := is_v ha0
  obtain rfl : w0 = (.int i0) := Option.some.inj ei0
  obtain ⟨i1, ei1⟩ := is_v ha1
  obtain rfl : w1 = (.int i1) := Option.some.inj ei1
  obtain ⟨n, o, h1, h2, h3, _, L, rfl, ⟨rfl, N⟩, hq⟩ := rm0 l s _ hw tables_1 i0 i1 s.heap p e ha hc hk s m _ below hf ((Spec.applies_iff_loose hf).mp happ).1 ⟨rfl, State.Warmed39.refl s, rfl⟩ trivial
  refine ⟨n, _, h1, h2, h3, hpost _ _ _ _ _ _ ⟨Cond.after_iff.mpr rfl, Cond.after_iff.mpr (eq_i res_at (Term.int_eval (1)) rfl), trivial⟩ ⟨hq.1, hq.2.1, (hq.2.2.sift fun y hy => Or.inr (N y hy)).mono (by decide) (by decide)⟩⟩
theorem main_1_1 : Claimed_1_1 := comes_1 fun _ _ _ _ _ _ h hF => ⟨h.1, hF⟩
theorem main_1_2 : Claimed_1_2 := comes_1 fun _ _ _ _ _ _ h hF => ⟨h.2.1, hF⟩
end Jvm.Pilot.@@N@@
namespace Jvm.Pilot.@@N@@
open Jvm Jvm.ClassFile Sem Op Lib Jvm.Free Jvm.Stand Jvm.Pilot.@@N@@.Jvm.D
/-! MADE BY PROGRAM (witnessworld.py) out of the Statement's table words and the real class files: 9 classes; the members and pool entries that the words name. The judged class is class 1, her method 2. -/
namespace start1
open Jvm.ClassFile
def u (s : String) : CpInfo := .utf8 (stringToUtf16 s)
/-- a pool by its gaps: so many unusable entries, then the entry; so many at the end -/
def gap : Nat → List CpInfo → List CpInfo
  | 0, r => r
  | n + 1, r => .unusable :: gap n r
def poolList (es : List (Nat × CpInfo)) (last : Nat) : List CpInfo := es.foldr (fun e r => gap e.1 (e.2 :: r)) (gap last [])
def pool (es : List (Nat × CpInfo)) (last : Nat) : Array CpInfo := ⟨poolList es last⟩
def fileOf (pool : Array CpInfo) (this : Nat) (attrs : Array Attribute := #[]) (ms : Array MethodInfo := #[]) (fl : Nat := 33) (sup : Nat := 0) (ifs : Array Nat := #[]) (fds : Array FieldInfo := #[]) : ClassFile where
  minorVersion := 0
  majorVersion := 65
  constantPool := pool
  accessFlags := fl
  thisClass := this
  superClass := sup
  interfaces := ifs
  fields := fds
  methods := ms
  attributes := attrs
def plain (name : String) (sup : Option ClassId) : Class where
  name := name
  kind := .ordinary
  loader := none
  accessFlags := 33
  super := sup
  interfaces := #[]
  cf := none
  fields := #[]
  methods := #[]
  instanceTypes := #[]
  staticTypes := #[]
  resolved := #[]
  callSites := []
  init := .initialized
  statics := none
  mirror := none

def pool0 : Array CpInfo := pool [(5, u "<init>"), (0, u "()V"), (1, .class_ 10), (1, u "java/lang/Object")] 113

def k0m0 : Method := { name := "<init>", desc := "()V", sig := { parameters := [], returnType := none }, accessFlags := 1, code := none }
/-- java/lang/Object -/
def k0 : Class := { plain "java/lang/Object" none with
  accessFlags := 33
  interfaces := #[]
  cf := some (fileOf pool0 8 #[] #[{ accessFlags := 1, nameIndex := 5, descriptorIndex := 6, attributes := #[] }] 33 0 #[] #[])
  fields := #[]
  methods := #[k0m0]
  instanceTypes := #[]
  staticTypes := #[]
  resolved := Array.replicate 124 none
  statics := none }

def pool1 : Array CpInfo := pool [(2, .class_ 4), (1, u "java/lang/Object"), (0, u "<init>"), (0, u "()V"), (0, .integer 1114111), (0, .integer 55296), (0, .integer 57343), (0, .integer 65534), (0, .integer 65535), (0, .integer 55295), (0, .integer 57344), (0, .integer 65533), (0, .integer 65536), (0, .integer 1114112), (2, .integer 2147483648), (0, .integer 2147483647), (0, .methodref 22 23), (0, .class_ 24), (0, .nameAndType 25 26), (0, u "com/example/loomcast/loomcast/StanzaText"), (0, u "isXmlCharacter"), (0, u "(I)Z"), (0, .methodref 28 29), (0, .class_ 30), (0, .nameAndType 31 26), (0, u "com/example/loomcast/loomcast/StanzaTextIsXmlCharacterPinLaw"), (0, u "expected"), (3, u "law"), (0, u "(II)Z")] 4

def k1m0 : Method := { name := "<init>", desc := "()V", sig := { parameters := [], returnType := none }, accessFlags := 2, code := none }
def k1c1 : Code := { maxStack := 2, maxLocals := 1, code := method_2_code, exceptionTable := #[], attributes := #[] }
def k1m1 : Method := { name := "expected", desc := "(I)Z", sig := { parameters := [.int], returnType := some .boolean }, accessFlags := 10, code := some k1c1 }
def k1c2 : Code := { maxStack := 4, maxLocals := 5, code := code, exceptionTable := #[], attributes := #[] }
def k1m2 : Method := { name := "law", desc := "(II)Z", sig := { parameters := [.int, .int], returnType := some .boolean }, accessFlags := 9, code := some k1c2 }
/-- com/example/loomcast/loomcast/StanzaTextIsXmlCharacterPinLaw -/
def k1 : Class := { plain "com/example/loomcast/loomcast/StanzaTextIsXmlCharacterPinLaw" (some 0) with
  accessFlags := 49
  interfaces := #[]
  cf := some (fileOf pool1 28 #[] #[{ accessFlags := 2, nameIndex := 5, descriptorIndex := 6, attributes := #[] }, { accessFlags := 10, nameIndex := 31, descriptorIndex := 26, attributes := #[] }, { accessFlags := 9, nameIndex := 35, descriptorIndex := 36, attributes := #[] }] 49 2 #[] #[])
  fields := #[]
  methods := #[k1m0, k1m1, k1m2]
  instanceTypes := #[]
  staticTypes := #[]
  resolved := Array.replicate 41 none
  statics := none }

def pool2 : Array CpInfo := pool [(2, .class_ 4), (1, u "java/lang/Object"), (0, u "<init>"), (0, u "()V"), (11, .class_ 20), (1, u "com/example/loomcast/loomcast/StanzaText"), (0, u "isXmlCharacter"), (0, u "(I)Z"), (26, .integer 55295), (0, .integer 57344), (0, .integer 65533), (0, .integer 65536), (0, .integer 1114111), (2, u "LANGUAGE"), (0, u "Ljava/util/regex/Pattern;")] 81

def k2m0 : Method := { name := "<init>", desc := "()V", sig := { parameters := [], returnType := none }, accessFlags := 2, code := none }
def k2c1 : Code := { maxStack := 2, maxLocals := 1, code := prog_63_method_3_code, exceptionTable := #[], attributes := #[] }
def k2m1 : Method := { name := "isXmlCharacter", desc := "(I)Z", sig := { parameters := [.int], returnType := some .boolean }, accessFlags := 8, code := some k2c1 }
/-- com/example/loomcast/loomcast/StanzaText -/
def k2 : Class := { plain "com/example/loomcast/loomcast/StanzaText" (some 0) with
  accessFlags := 48
  interfaces := #[]
  cf := some (fileOf pool2 18 #[] #[{ accessFlags := 2, nameIndex := 5, descriptorIndex := 6, attributes := #[] }, { accessFlags := 8, nameIndex := 21, descriptorIndex := 22, attributes := #[] }] 48 2 #[] #[{ accessFlags := 26, nameIndex := 56, descriptorIndex := 57, attributes := #[] }])
  fields := #[{ name := "LANGUAGE", type := (.object "java/util/regex/Pattern"), accessFlags := 26, slot := 0, constantValue := 0 }]
  methods := #[k2m0, k2m1]
  instanceTypes := #[]
  staticTypes := #[(.object "java/util/regex/Pattern")]
  resolved := Array.replicate 139 none
  statics := none }

def pool3 : Array CpInfo := pool [(1, u "java/lang/Cloneable"), (0, .class_ 1), (0, u "java/lang/Object"), (0, .class_ 3)] 3

/-- java/lang/Cloneable -/
def k3 : Class := { plain "java/lang/Cloneable" (some 0) with
  accessFlags := 1537
  interfaces := #[]
  cf := some (fileOf pool3 2 #[] #[] 1537 4 #[] #[])
  fields := #[]
  methods := #[]
  instanceTypes := #[]
  staticTypes := #[]
  resolved := Array.replicate 8 none
  statics := none }

def pool4 : Array CpInfo := pool [(1, u "java/io/Serializable"), (0, .class_ 1), (0, u "java/lang/Object"), (0, .class_ 3)] 3

/-- java/io/Serializable -/
def k4 : Class := { plain "java/io/Serializable" (some 0) with
  accessFlags := 1537
  interfaces := #[]
  cf := some (fileOf pool4 2 #[] #[] 1537 4 #[] #[])
  fields := #[]
  methods := #[]
  instanceTypes := #[]
  staticTypes := #[]
  resolved := Array.replicate 8 none
  statics := none }

/-- the primitive byte -/
def k5 : Class := { plain "byte" none with kind := .primitive 'B', accessFlags := 0x411 }
/-- [B -/
def k6 : Class := { plain "[B" (some 0) with kind := .array 5 .byte, interfaces := #[3, 4], accessFlags := 1041 }

/-- the primitive int -/
def k7 : Class := { plain "int" none with kind := .primitive 'I', accessFlags := 0x411 }
/-- [I -/
def k8 : Class := { plain "[I" (some 0) with kind := .array 7 .int, interfaces := #[3, 4], accessFlags := 1041 }

def heap : Heap := #[]
def classes : Array Class := #[k0, k1, k2, k3, k4, k5, k6, k7, k8]
def interned : List (Array UInt16 × Addr) := []
def slotsUsed : Nat := 0
def theMethod : MethodId := ⟨1, 2⟩
def args0 : Array Value := #[.int 5, .int 5]
def aboutOver (below : List Frame) : State where
  vm := { classes := classes, interned := interned.toArray }
  heap := heap
  slotsUsed := slotsUsed
  threads := #[{ frames := .invoking theMethod args0 :: below }]
def below0 : List Frame := [.native { method := ⟨0, 0⟩, args := #[] }]
def about1 : State := aboutOver below0
def p0 : Program := .bare "" "" ""
def e0 : Env := launch0.env 0 0 0
theorem w_frames : about1.frames = Frame.invoking theMethod args0 :: below0 := rfl
set_option maxRecDepth 65536 in
theorem w_args : argsFit about1.vm theMethod args0 = true := by decide +kernel
set_option maxRecDepth 65536 in
theorem w_heap : heapFits about1 = true := by decide +kernel
set_option maxRecDepth 65536 in
theorem w_runnable : about1.curStatus? = some .runnable := by decide +kernel
set_option maxRecDepth 65536 in
theorem w_alone : about1.alone = true := by decide +kernel
set_option maxRecDepth 65536 in
theorem w_named : about1.methodNamed? x = some theMethod := by decide +kernel
set_option maxRecDepth 65536 in
theorem w_hears : about1.hears theMethod below0 = true := by decide +kernel
set_option maxRecDepth 65536 in
theorem w_ripe : about1.ripe theMethod args0 below0 = true := by decide +kernel
theorem w_running : about1.status = .running := rfl
set_option maxRecDepth 65536 in
theorem w_room : about1.hasRoom e0.platform room_1 = true :=
  launch0.hasRoom_least _ room_1 (by decide +kernel) (by decide +kernel) (by decide +kernel) (by decide +kernel) (by decide +kernel) (by decide +kernel)
theorem allAtoms_all (ts : List Jvm.Cond) (a : Array Jvm.Value) (st : Jvm.State) : (allAtoms ts).before a st = ts.all (fun c => c.before a st) := by
  induction ts with
  | nil => rfl
  | cons c t ih =>
    show (Jvm.Cond.and c (allAtoms t)).before a st = _
    rw [Jvm.Cond.before_and, ih, List.all_cons]
def words1 : List Jvm.Cond := Jvm.Cond.code x code maxLocals ret :: tables_1
/-- a 'code' word, met by the world's own term for the bytes: nothing is compared byte by byte -/
theorem code_word {y : MethodName} {bytes : ByteArray} {mx : Nat} {rt : Option FieldType} {a : Array Value} {s : State} {m : MethodId} {meth : Method} {c : Code} (h1 : s.methodNamed? y = some m) (h2 : s.vm.method? m = some meth) (h3 : meth.code = some c) (h4 : c.code = bytes)
    (h5 : (c.maxLocals == mx && c.exceptionTable.isEmpty && decide (c.maxStack ≤ mostOperands) && decide (meth.sig.returnType = rt) && !meth.locks && decide (parseMethodDescriptor y.desc = some meth.sig)) = true) : (Jvm.Cond.code y bytes mx rt).before a s = true := by
  simp only [Bool.and_eq_true, beq_iff_eq, Bool.not_eq_true', decide_eq_true_eq] at h5
  obtain ⟨⟨⟨⟨⟨g1, g2⟩, g3⟩, g4⟩, g5⟩, g6⟩ := h5
  simp [Cond.before, Cond.holds, Cond.value, h1, h2, h3, h4, g1, g2, g3, g4, g5, g6]
def isCode : Jvm.Cond → Bool
  | .code _ _ _ _ => true
  | _ => false
theorem all_split {L : List Jvm.Cond} {P : Jvm.Cond → Bool} (h1 : L.all (fun c => isCode c || P c) = true) (h2 : ∀ c ∈ L.filter isCode, P c = true) : L.all P = true := by
  refine List.all_eq_true.mpr fun c hc => ?_
  have h := List.all_eq_true.mp h1 c hc
  rcases Bool.eq_false_or_eq_true (isCode c) with hi | hi
  · exact h2 c (List.mem_filter.mpr ⟨hc, hi⟩)
  · simpa [hi] using h
set_option maxRecDepth 65536 in
theorem w_c0 : (Jvm.Cond.code x code maxLocals ret).before args0 about1 = true := code_word (m := ⟨1, 2⟩) (meth := k1m2) (c := k1c2) (by decide +kernel) rfl rfl rfl (by decide +kernel)
set_option maxRecDepth 65536 in
theorem w_c1 : (Jvm.Cond.code ({ cls := "com/example/loomcast/loomcast/StanzaText", name := "isXmlCharacter", desc := "(I)Z" } : Jvm.MethodName) prog_63_method_3_code (1 : Nat) (Option.some Jvm.ClassFile.FieldType.boolean)).before args0 about1 = true := code_word (m := ⟨2, 1⟩) (meth := k2m1) (c := k2c1) (by decide +kernel) rfl rfl rfl (by decide +kernel)
set_option maxRecDepth 65536 in
theorem w_c2 : (Jvm.Cond.code ({ cls := "com/example/loomcast/loomcast/StanzaTextIsXmlCharacterPinLaw", name := "expected", desc := "(I)Z" } : Jvm.MethodName) method_2_code (1 : Nat) (Option.some Jvm.ClassFile.FieldType.boolean)).before args0 about1 = true := code_word (m := ⟨1, 1⟩) (meth := k1m1) (c := k1c1) (by decide +kernel) rfl rfl rfl (by decide +kernel)
def codes1 : List Jvm.Cond := [Jvm.Cond.code x code maxLocals ret, Jvm.Cond.code ({ cls := "com/example/loomcast/loomcast/StanzaText", name := "isXmlCharacter", desc := "(I)Z" } : Jvm.MethodName) prog_63_method_3_code (1 : Nat) (Option.some Jvm.ClassFile.FieldType.boolean), Jvm.Cond.code ({ cls := "com/example/loomcast/loomcast/StanzaTextIsXmlCharacterPinLaw", name := "expected", desc := "(I)Z" } : Jvm.MethodName) method_2_code (1 : Nat) (Option.some Jvm.ClassFile.FieldType.boolean)]
set_option maxRecDepth 65536 in
theorem codes_eq : words1.filter isCode = codes1 := rfl
theorem w_codes : ∀ c ∈ words1.filter isCode, c.before args0 about1 = true := by
  rw [codes_eq]
  intro c hc
  simp only [codes1, List.mem_cons, List.not_mem_nil, or_false] at hc
  rcases hc with rfl | rfl | rfl
  · exact w_c0
  · exact w_c1
  · exact w_c2
set_option maxRecDepth 65536 in
theorem w_t1 : (words1.take 24).all (fun c => isCode c || c.before args0 about1) = true := by decide +kernel
set_option maxRecDepth 65536 in
theorem w_t2 : (words1.drop 24).all (fun c => isCode c || c.before args0 about1) = true := by decide +kernel
theorem w_tables : (allAtoms (Jvm.Cond.code x code maxLocals ret :: tables_1)).before args0 about1 = true := by
  rw [allAtoms_all]
  show words1.all (fun c => c.before args0 about1) = true
  refine all_split ?_ w_codes
  rw [← List.take_append_drop 24 words1, List.all_append, w_t1, w_t2]
  rfl
set_option maxRecDepth 65536 in
theorem w_case : (Jvm.Cond.and given_1 narrow_1).before args0 about1 = true := by decide +kernel
theorem w_applies : (headSpec (Jvm.Cond.code x code maxLocals ret :: tables_1) room_1).applies x e0.platform about1 = true :=
  (Spec.applies_iff w_frames).mpr ⟨w_running, w_runnable, w_alone, w_named, w_hears, w_ripe, w_room, w_tables⟩
theorem atStart : AtStart classFile x code maxLocals ret World_1 tables_1 room_1 Calls_1 rest_1 Pre_1 launch0 p0 e0 about1 theMethod args0 below0 :=
  ⟨lists_1, trivial, launch0.admits_env _ _ _, launch0.least_env, fairChoices_fair.cas, fairChoices_fair.clock, w_frames, w_args, w_heap, w_applies, trivial, trivial, w_case⟩
end start1
theorem witness_1 : WitnessClaimed_1 := ⟨start1.p0, start1.e0, start1.about1, start1.theMethod, start1.args0, start1.below0, start1.atStart⟩
end Jvm.Pilot.@@N@@
