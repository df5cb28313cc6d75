import JvmDerived
import JvmDerived.Pilot.@@N@@Statement
import JvmDerived.Pilot.@@N@@Code
set_option linter.unusedVariables false
set_option linter.unusedSimpArgs false
namespace Jvm.RoadKit
open Sem ClassFile Op Lib Jvm.Stand Jvm.Free Jvm.LawKit
section New
variable {p : Program} {l : Launch} {e : Env} {R : Room} {s : State} {m : MethodId} {args : Array Value} {below : List Frame} {meth : Method} {c : Code} {T : State} {locs : List Loc} {cells slots : Nat}
theorem retI (X : Stand p l e R s m args below meth c T locs cells slots) (hx : p.tables.exec = Jvm.exec) {pc : Nat} {Ls : Array Slot} {z : Int32} {rest : List Value} (hret : meth.sig.returnType = some .int) (hd : decode c.code pc = .ok (.ireturn, 1)) {fs : List Frame}
    (hl : ∀ (f : JFrame) (acts : List Action), f.method = m → f.locked = none → f.entered = [] → (doReturn e (T.setTop f) acts (some (.int z))).1 = T.setFrames fs) : Steps p.tables e below (T.setTop (mkF m pc Ls (.int z :: rest))) (T.setFrames fs) := by
  have hm' : T.vm.method? m = some meth := X.method'
  have hn : narrow .int (.int z) = .int z := rfl
  show Steps p.tables e below (T.setTop { method := m, pc := pc, locals := Ls, stack := _ :: rest, locked := none }) _
  jvm_step X.here [X.here.top, hx, hd, hm', hret, hn]
  first | (intro acts; rw [hl _ acts rfl rfl rfl]) | rw [hl _ _ rfl rfl rfl]
  exact Steps.refl _
end New
end Jvm.RoadKit
namespace Jvm.Pilot.@@N@@
open Jvm Jvm.ClassFile Sem Op Lib Jvm.Free Jvm.Stand Jvm.LawKit Jvm.RoadKit Bundle Jvm.Pilot.@@N@@.Jvm.D
/-- what is still to come: from the frame g at T the run comes to an end that Q takes -/
def own_WP (p : Program) (e : Env) (below : List Frame) (Q : Outcome → State → Prop) (T : State) (g : JFrame) : Prop :=
  ∃ s₂ o, Steps p.tables e below (T.setTop g) s₂ ∧ s₂.status = .running ∧ Ended s₂ below o ∧ Q o s₂
def own_Q (s : State) (P : Option Value → Heap → List Loc → Prop) (C S : Nat) (o : Outcome) (U : State) : Prop :=
  ∃ v L, o = .returned v ∧ P v U.heap L ∧ FrameEnd s o U L C S
def own_Ctx (p : Program) (s : State) (m : MethodId) (meth : Method) (c : Code) (Z : State) (y : MethodName) (bytes : ByteArray) (maxL : Nat) (rt : Option FieldType) : Prop :=
  p.tables.exec = Jvm.exec ∧ Z.Warmed39 s.vm ∧ c.code = bytes ∧ c.maxLocals = maxL ∧ s.vm.findClass y.cls = some m.cls ∧ meth.name = y.name ∧ meth.sig.returnType = rt ∧ meth.locks = false
def own_Met (l : Launch) (Z : State) (y : MethodName) (bytes : ByteArray) (maxL : Nat) (rt : Option FieldType) (ws : List Jvm.Cond) (rm : Room) (as' : Array Value) (h : Heap) (P : Option Value → Heap → List Loc → Prop) : Prop :=
  MetFree l y (head1 (Jvm.Cond.code y bytes maxL rt :: ws) rm) (fun a U => a = as' ∧ Z.Warmed39 U.vm ∧ U.heap = h) (fun _ _ _ _ _ => True) (fun _ U o U' => ∃ v L, o = .returned v ∧ P v U'.heap L ∧ FrameEnd U o U' L rm.cells rm.slots)
section Own
variable {p : Program} {l : Launch} {e : Env} {R : Room} {s : State} {m : MethodId} {args : Array Value} {below : List Frame} {meth : Method} {c : Code} {T T' : State} {locs : List Loc} {cells slots : Nat} {Z : State} {a0 : Array Value} {y : MethodName} {bytes : ByteArray} {maxL : Nat} {rt : Option FieldType} {P : Option Value → Heap → List Loc → Prop} {Q : Outcome → State → Prop}
theorem own_go {g g' : JFrame} (st : ∀ t, Steps p.tables e below (T'.setTop g') t → Steps p.tables e below (T.setTop g) t) (h : own_WP p e below Q T' g') : own_WP p e below Q T g := by
  obtain ⟨s₂, o, h1, h2⟩ := h
  exact ⟨s₂, o, st _ h1, h2⟩
theorem own_body {ws : List Jvm.Cond} {rm : Room} {as' : Array Value} {h : Heap} (hp : plainFor y = true)
    (body : ∀ p e s m below meth c s₁, own_Ctx p s m meth c Z y bytes maxL rt → Stand p l e rm s m as' below meth c s₁ [] 0 0 → s₁.heap = h → own_WP p e below (own_Q s P rm.cells rm.slots) s₁ (entryFrame m as' maxL)) :
    own_Met l Z y bytes maxL rt ws rm as' h P := by
  refine MetFree.of_bodySF hp hisR ?_
  intro p e s m args below meth c s₁ Bd hml0 hP hK
  obtain ⟨rfl, hZ, hh⟩ := hP
  exact body p e s m below meth c s₁ ⟨Bd.exec, hZ, Bd.bytes, hml0, findClass_of_methodNamed Bd.named, (name_of_methodNamed Bd.named Bd.method).1, Bd.returns, Bd.notSynchronized⟩ (Stand.of_body Bd) (by rw [← hh, Bd.state]; rfl)
theorem own_cast {g g' : JFrame} (q : g = g') (k : own_WP p e below Q T g') : own_WP p e below Q T g := q ▸ k
theorem own_retI (X : Stand p l e R s m args below meth c T locs cells slots) (C : own_Ctx p s m meth c Z y bytes maxL (some .int)) {pc : Nat} {Ls : Array Slot} {z : Int32} {rest : List Value} {CC SS : Nat}
    (hd : decode c.code pc = .ok (.ireturn, 1)) (hP : P (some (.int z)) T.heap locs) (hc : cells ≤ CC) (hs : slots ≤ SS) : own_WP p e below (own_Q s P CC SS) T (mkF m pc Ls (.int z :: rest)) := by
  obtain ⟨hx, -, -, -, -, -, hr, hlk⟩ := C
  obtain ⟨fs, hrr, hrun, hended, hW, hsame⟩ := X.leave (v := some (.int z)) (fun h => by rw [hr] at h; cases h) hlk
  exact ⟨_, _, retI X hx hr hd hrr, hrun, hended, _, _, rfl, hP, ⟨_, rfl⟩, hW, hsame.mono hc hs⟩
theorem own_retN {t : FieldType} (X : Stand p l e R s m args below meth c T locs cells slots) (C : own_Ctx p s m meth c Z y bytes maxL (some t)) (ht : t = .boolean ∨ t = .byte ∨ t = .char ∨ t = .short) {pc : Nat} {Ls : Array Slot} {z : Int32} {rest : List Value} {CC SS : Nat}
    (hd : decode c.code pc = .ok (.ireturn, 1)) (hP : P (some (.int (nar t z))) T.heap locs) (hc : cells ≤ CC) (hs : slots ≤ SS) : own_WP p e below (own_Q s P CC SS) T (mkF m pc Ls (.int z :: rest)) := by
  obtain ⟨hx, -, -, -, -, -, hr, hlk⟩ := C
  obtain ⟨fs, hrr, hrun, hended, hW, hsame⟩ := X.leave (v := some (.int (nar t z))) (fun h => by rw [hr] at h; cases h) hlk
  exact ⟨_, _, retN X hx hr ht hd hrr, hrun, hended, _, _, rfl, hP, ⟨_, rfl⟩, hW, hsame.mono hc hs⟩
theorem own_retL (X : Stand p l e R s m args below meth c T locs cells slots) (C : own_Ctx p s m meth c Z y bytes maxL (some .long)) {pc : Nat} {Ls : Array Slot} {z : Int64} {CC SS : Nat}
    (hd : decode c.code pc = .ok (.lreturn, 1)) (hP : P (some (.long z)) T.heap locs) (hc : cells ≤ CC) (hs : slots ≤ SS) : own_WP p e below (own_Q s P CC SS) T (mkF m pc Ls [.long z]) := by
  obtain ⟨hx, -, -, -, -, -, hr, hlk⟩ := C
  obtain ⟨fs, hrr, hrun, hended, hW, hsame⟩ := X.leave (v := some (.long z)) (fun h => by rw [hr] at h; cases h) hlk
  exact ⟨_, _, X.lreturnOut hx hr hd hrr, hrun, hended, _, _, rfl, hP, ⟨_, rfl⟩, hW, hsame.mono hc hs⟩
theorem own_retV (X : Stand p l e R s m args below meth c T locs cells slots) (C : own_Ctx p s m meth c Z y bytes maxL none) {pc : Nat} {Ls : Array Slot} {CC SS : Nat}
    (hd : decode c.code pc = .ok (.return_, 1)) (hP : P none T.heap locs) (hc : cells ≤ CC) (hs : slots ≤ SS) : own_WP p e below (own_Q s P CC SS) T (mkF m pc Ls []) := by
  obtain ⟨hx, -, -, -, -, -, hr, hlk⟩ := C
  obtain ⟨fs, hrr, hrun, hended, hW, hsame⟩ := X.leave (v := none) (fun _ => rfl) hlk
  exact ⟨_, _, X.returnOut hx hr hd hrr, hrun, hended, _, _, rfl, hP, ⟨_, rfl⟩, hW, hsame.mono hc hs⟩
theorem own_retA {t : FieldType} (X : Stand p l e R s m args below meth c T locs cells slots) (C : own_Ctx p s m meth c Z y bytes maxL (some t)) (ht : t.isReference = true) {pc : Nat} {Ls : Array Slot} {a : Addr} {CC SS : Nat}
    (hd : decode c.code pc = .ok (.areturn, 1)) (hP : P (some (.ref a)) T.heap locs) (hc : cells ≤ CC) (hs : slots ≤ SS) : own_WP p e below (own_Q s P CC SS) T (mkF m pc Ls [.ref a]) := by
  obtain ⟨hx, -, -, -, -, -, hr, hlk⟩ := C
  obtain ⟨fs, hrr, hrun, hended, hW, hsame⟩ := X.leave (v := some (.ref a)) (fun h => by rw [hr] at h; cases h) hlk
  exact ⟨_, _, X.areturnOut hx rfl hr ht hd hrr, hrun, hended, _, _, rfl, hP, ⟨_, rfl⟩, hW, hsame.mono hc hs⟩
/-- a static call by the callee's contract -/
theorem own_callS (X : Stand p l e R s m args below meth c T locs cells slots) (C : own_Ctx p s m meth c Z y bytes maxL rt) {idx : Nat} {y' : MethodName} {bytes' : ByteArray} {maxL' : Nat} {rt' : Option FieldType} {rm' : Room} {argsL rest : List Value} {h : Heap} {P' : Option Value → Heap → List Loc → Prop}
    (hM : own_Met l Z y' bytes' maxL' rt' [] rm' argsL.toArray h P') (w1 : (Cond.methodLink y.cls idx y').before a0 Z = true) (w2 : (Cond.static y').before a0 Z = true) (w3 : (Cond.initialized y'.cls).before a0 Z = true) (w4 : (Cond.code y' bytes' maxL' rt').before a0 Z = true)
    (hy : y'.cls ≠ "java/lang/invoke/MethodHandle" ∧ y'.cls ≠ "java/lang/invoke/VarHandle") (eT : T.heap = h) {W : Nat} {pc : Nat} {Ls : Array Slot} (hsz : Ls.size = maxL) (hlen : ∀ sig, parseMethodDescriptor y'.desc = some sig → argsL.length = sig.parameters.length)
    {stk : List Value} (hst : stk = argsL.reverse ++ rest) (hW : (rest.map fun v => v.category).sum ≤ W) (hd : decode c.code pc = .ok (.invokestatic idx, 3))
    (hf : rm'.frames + 1 ≤ R.frames) (hl : W + (maxL' + 11) + rm'.locals ≤ R.locals) (hc : cells + rm'.cells ≤ R.cells) (hs : slots + rm'.slots ≤ R.slots) :
    ∃ T' v L, Stand p l e R s m args below meth c T' (locs ++ L) (cells + rm'.cells) (slots + rm'.slots) ∧ P' v T'.heap L ∧ ∀ t, Steps p.tables e below (T'.setTop (mkF m (pc + 3) Ls (v.toList ++ rest))) t → Steps p.tables e below (T.setTop (mkF m pc Ls stk)) t := by
  obtain ⟨hx, hZ, hby, hml, hown, hnm, hr, hlk⟩ := C
  obtain ⟨v, _, ⟨T', L', k', n'⟩, -, X', ⟨L, hQ, hl', hk', hn'⟩, st⟩ := Jvm.LawKit.callS X hx (y := y') hown (mvT hZ w1) (mvT hZ w2) (mvT hZ w3) (mvT hZ w4) hy (backOf (W := W) hM hZ w4 w3 hf hl) (g := mkF m pc Ls stk) rfl (by rw [hml]; exact hsz) (argsL := argsL) (rest := rest) hlen hst (by show 2 * 0 + _ ≤ _; omega) hd (fun _ _ => ⟨rfl, eT, hc, hs⟩)
  dsimp only [Pt.U, Pt.locs, Pt.cells, Pt.slots] at X' hl' hk' hn' st hQ
  subst hl' hk' hn'
  exact ⟨T', v, L, X', hQ, st⟩
/-- a constructor by its contract -/
theorem own_callN (X : Stand p l e R s m args below meth c T locs cells slots) (C : own_Ctx p s m meth c Z y bytes maxL rt) {idx : Nat} {y' : MethodName} {bytes' : ByteArray} {maxL' : Nat} {rm' : Room} {a : Addr} {argsL rest : List Value} {h : Heap} {P' : Option Value → Heap → List Loc → Prop}
    (hM : own_Met l Z y' bytes' maxL' none [] rm' (.ref a :: argsL).toArray h P') (hyn : y'.name = "<init>") (w1 : (Cond.methodLink y.cls idx y').before a0 Z = true) (w2 : (Cond.instanceMethod y').before a0 Z = true) (w3 : (Cond.initialized y'.cls).before a0 Z = true) (w4 : (Cond.code y' bytes' maxL' none).before a0 Z = true)
    (hy : y'.cls ≠ "java/lang/invoke/MethodHandle" ∧ y'.cls ≠ "java/lang/invoke/VarHandle") (eT : T.heap = h) {W : Nat} {pc : Nat} {Ls : Array Slot} (hsz : Ls.size = maxL) (hlen : ∀ sig, parseMethodDescriptor y'.desc = some sig → argsL.length = sig.parameters.length)
    {stk : List Value} (hst : stk = argsL.reverse ++ .ref a :: rest) (hW : (rest.map fun v => v.category).sum ≤ W) (hd : decode c.code pc = .ok (.invokespecial idx, 3))
    (hf : rm'.frames + 1 ≤ R.frames) (hl : W + (maxL' + 11) + rm'.locals ≤ R.locals) (hc : cells + rm'.cells ≤ R.cells) (hs : slots + rm'.slots ≤ R.slots) :
    ∃ T' v L, Stand p l e R s m args below meth c T' (locs ++ L) (cells + rm'.cells) (slots + rm'.slots) ∧ P' v T'.heap L ∧ ∀ t, Steps p.tables e below (T'.setTop (mkF m (pc + 3) Ls (v.toList ++ rest))) t → Steps p.tables e below (T.setTop (mkF m pc Ls stk)) t := by
  obtain ⟨hx, hZ, hby, hml, hown, hnm, hr, hlk⟩ := C
  obtain ⟨v, _, ⟨T', L', k', n'⟩, -, X', ⟨L, hQ, hl', hk', hn'⟩, st⟩ := X.specialBack hx (y := y') hyn hown (mvT hZ w1) (mvT hZ w2) (mvT hZ w4) hy (backOf (W := W) hM hZ w4 w3 hf hl) (g := mkF m pc Ls stk) rfl (by rw [hml]; exact hsz) (Steps.refl _) (a := a) (argsL := argsL) (rest := rest) hlen hst (by show 2 * 0 + _ ≤ _; omega) hd (fun _ _ => ⟨rfl, eT, hc, hs⟩)
  dsimp only [Pt.U, Pt.locs, Pt.cells, Pt.slots] at X' hl' hk' hn' st hQ
  subst hl' hk' hn'
  exact ⟨T', v, L, X', hQ, fun t k => st.trans k⟩
/-- an instance method by the contract of the body that is selected (the class that declares it is the receiver's own) -/
theorem own_callV (X : Stand p l e R s m args below meth c T locs cells slots) (C : own_Ctx p s m meth c Z y bytes maxL rt) {idx : Nat} {y' : MethodName} {bytes' : ByteArray} {maxL' : Nat} {rt' : Option FieldType} {rm' : Room} {a : Addr} {argsL rest : List Value} {h : Heap} {P' : Option Value → Heap → List Loc → Prop}
    (hM : own_Met l Z y' bytes' maxL' rt' [] rm' (.ref a :: argsL).toArray h P') (w1 : (Cond.methodLink y.cls idx y').before a0 Z = true) (wd : (Cond.declares y').before a0 Z = true) (wsel : (Cond.selects y'.cls y' y').before a0 Z = true) (w2 : (Cond.instanceMethod y').before a0 Z = true) (w3 : (Cond.initialized y'.cls).before a0 Z = true) (w4 : (Cond.code y' bytes' maxL' rt').before a0 Z = true)
    (hy : y'.cls ≠ "java/lang/invoke/MethodHandle" ∧ y'.cls ≠ "java/lang/invoke/VarHandle") (eT : T.heap = h) (E : Exa Z h a y'.cls) {W : Nat} {pc : Nat} {Ls : Array Slot} (hsz : Ls.size = maxL) (hlen : ∀ sig, parseMethodDescriptor y'.desc = some sig → argsL.length = sig.parameters.length)
    {stk : List Value} (hst : stk = argsL.reverse ++ .ref a :: rest) (hW : (rest.map fun v => v.category).sum ≤ W) (hd : decode c.code pc = .ok (.invokevirtual idx, 3))
    (hf : rm'.frames + 1 ≤ R.frames) (hl : W + (maxL' + 11) + rm'.locals ≤ R.locals) (hc : cells + rm'.cells ≤ R.cells) (hs : slots + rm'.slots ≤ R.slots) :
    ∃ T' v L, Stand p l e R s m args below meth c T' (locs ++ L) (cells + rm'.cells) (slots + rm'.slots) ∧ P' v T'.heap L ∧ ∀ t, Steps p.tables e below (T'.setTop (mkF m (pc + 3) Ls (v.toList ++ rest))) t → Steps p.tables e below (T.setTop (mkF m pc Ls stk)) t := by
  obtain ⟨hx, hZ, hby, hml, hown, hnm, hr, hlk⟩ := C
  obtain ⟨cq, kq, qa, qb, qc⟩ := isOf hZ eT E
  obtain ⟨v, _, ⟨T', L', k', n'⟩, -, X', ⟨L, hQ, hl', hk', hn'⟩, st⟩ := X.virtualBack hx (y := y') (z := y') hown (mvT hZ w1) (mvT hZ wd) (notFace_of_selects (args := #[]) (mvT hZ wsel)) (mvT hZ wsel) (mvT hZ w2) hy (backOf (W := W) hM hZ w4 w3 hf hl) qa qc (g := mkF m pc Ls stk) rfl (by rw [hml]; exact hsz) (Steps.refl _) (argsL := argsL) (rest := rest) hlen hst (by show 2 * 0 + _ ≤ _; omega) hd (fun _ _ => ⟨rfl, eT, hc, hs⟩)
  dsimp only [Pt.U, Pt.locs, Pt.cells, Pt.slots] at X' hl' hk' hn' st hQ
  subst hl' hk' hn'
  exact ⟨T', v, L, X', hQ, fun t k => st.trans k⟩
end Own
end Jvm.Pilot.@@N@@
namespace Jvm.Pilot.@@N@@
open Jvm Jvm.ClassFile Sem Op Lib Jvm.Free Jvm.Stand Jvm.LawKit Jvm.RoadKit Bundle Jvm.Pilot.@@N@@.Jvm.D
/-- the array at b holds just vs -/
def own_A (Z : State) (h : Heap) (b : Addr) (ty : FieldType) (vs : List Value) : Prop := Exa Z h b ("[" ++ ty.toString) ∧ ∃ c : Cell, Arr Z h b c ty ∧ c.slots = vs.toArray ∧ vs.length < 2147483648 ∧ ∀ v ∈ vs, fits ty v = true
def own_AI (Z : State) (h : Heap) (b : Addr) (ty : FieldType) (vs : List Int32) : Prop := own_A Z h b ty (vs.map Value.int)
def own_AJ (Z : State) (h : Heap) (b : Addr) (ty : FieldType) (vs : List Int64) : Prop := own_A Z h b ty (vs.map Value.long)
def own_get {α : Type} (vs : List α) (j : Int32) : Option α := if j < 0 then none else vs[j.toNatClampNeg]?
def own_set {α : Type} (vs : List α) (j : Int32) (x : α) : Option (List α) := if j < 0 then none else if j.toNatClampNeg < vs.length then some (vs.set j.toNatClampNeg x) else none
theorem own_bind {α β : Type} {o : Option α} {f : α → Option β} {r : β} (h : o.bind f = some r) : ∃ v, o = some v ∧ f v = some r := by
  cases o with
  | none => cases h
  | some v => exact ⟨v, rfl, h⟩
def own_let {α β : Type} (a : α) (f : α → β) : β := f a
theorem own_letE {α β : Type} {a : α} {f : α → β} {r : β} (h : own_let a f = r) : f a = r := h
theorem own_ne {a b : Nat} (h : a < b ∨ b < a) : @Ne Addr a b := by
  intro e
  rcases h with h | h
  · exact Nat.lt_irrefl _ (e ▸ h)
  · exact Nat.lt_irrefl _ (e ▸ h)
theorem own_cap {n : Int32} {c : Int} {k : Nat} (hk : c = (k : Int)) (h : ¬ c < n.toInt) : n.toNatClampNeg ≤ k := by
  have q : n.toNatClampNeg = n.toInt.toNat := rfl
  rw [q]; omega
theorem own_acEq {a b : Nat} (h : a < b ∨ b < a) : if_acmp.holds .eq (some a) (some b) = false := by
  have q : a ≠ b := by omega
  simp [if_acmp.holds, q]
theorem own_acNe {a b : Nat} (h : a < b ∨ b < a) : if_acmp.holds .ne (some a) (some b) = true := by
  have q : a ≠ b := by omega
  simp [if_acmp.holds, q]
theorem own_acEqS {a : Nat} : if_acmp.holds .eq (some a) (some a) = true := by simp [if_acmp.holds]
theorem own_acNeS {a : Nat} : if_acmp.holds .ne (some a) (some a) = false := by simp [if_acmp.holds]
section Own
variable {p : Program} {l : Launch} {e : Env} {R : Room} {s : State} {m : MethodId} {args : Array Value} {below : List Frame} {meth : Method} {c : Code} {T T' : State} {locs : List Loc} {cells slots : Nat} {Z : State} {a0 : Array Value} {y : MethodName} {bytes : ByteArray} {maxL : Nat} {rt : Option FieldType} {h h' : Heap} {a b : Addr} {ty : FieldType}
theorem own_A.lt {vs : List Value} (F : own_A Z h b ty vs) : b < h.size := by obtain ⟨E, c, A, -⟩ := F; exact A.lt
theorem own_A.ext {vs : List Value} (F : own_A Z h b ty vs) (E : Ext h h') : own_A Z h' b ty vs := by obtain ⟨Q, c, A, r⟩ := F; exact ⟨Q.ext E, c, A.ext E, r⟩
theorem own_A.other {vs : List Value} {sl : Nat} {v : Value} (F : own_A Z h b ty vs) (W : Wr h h' a sl v) (q : b ≠ a) : own_A Z h' b ty vs := by obtain ⟨Q, c, A, r⟩ := F; exact ⟨Q.wr W, c, A.other W q, r⟩
theorem own_A.keep {vs : List Value} {ws : List Addr} (F : own_A Z h b ty vs) (K : Keep h h' ws) (q : b ∉ ws) : own_A Z h' b ty vs := by obtain ⟨Q, c, A, r⟩ := F; exact ⟨Q.keep K, c, ⟨K.2.1 b c A.1 q, A.2⟩, r⟩
theorem own_A.set {vs : List Value} {j : Nat} {v : Value} (F : own_A Z h b ty vs) (W : Wr h h' b j v) (hv : fits ty v = true) : own_A Z h' b ty (vs.set j v) := by
  obtain ⟨Q, c, A, r1, r2, r3⟩ := F
  refine ⟨Q.wr W, _, A.same W, ?_, by simpa using r2, ?_⟩
  · show c.slots.setIfInBounds j v = _
    rw [r1]; simp
  · intro u hu
    rcases List.mem_or_eq_of_mem_set hu with q | q
    · exact r3 u q
    · rw [q]; exact hv
theorem own_AI.lt {vs : List Int32} (F : own_AI Z h b ty vs) : b < h.size := own_A.lt F
theorem own_AI.ext {vs : List Int32} (F : own_AI Z h b ty vs) (E : Ext h h') : own_AI Z h' b ty vs := own_A.ext F E
theorem own_AI.other {vs : List Int32} {sl : Nat} {v : Value} (F : own_AI Z h b ty vs) (W : Wr h h' a sl v) (q : b ≠ a) : own_AI Z h' b ty vs := own_A.other F W q
theorem own_AI.keep {vs : List Int32} {ws : List Addr} (F : own_AI Z h b ty vs) (K : Keep h h' ws) (q : b ∉ ws) : own_AI Z h' b ty vs := own_A.keep F K q
theorem own_AJ.lt {vs : List Int64} (F : own_AJ Z h b ty vs) : b < h.size := own_A.lt F
theorem own_AJ.ext {vs : List Int64} (F : own_AJ Z h b ty vs) (E : Ext h h') : own_AJ Z h' b ty vs := own_A.ext F E
theorem own_AJ.other {vs : List Int64} {sl : Nat} {v : Value} (F : own_AJ Z h b ty vs) (W : Wr h h' a sl v) (q : b ≠ a) : own_AJ Z h' b ty vs := own_A.other F W q
theorem own_AJ.keep {vs : List Int64} {ws : List Addr} (F : own_AJ Z h b ty vs) (K : Keep h h' ws) (q : b ∉ ws) : own_AJ Z h' b ty vs := own_A.keep F K q
theorem own_A.place {α : Type} {f : α → Value} {vs : List α} {j : Int32} {v : α} (F : own_A Z h b ty (vs.map f)) (g : own_get vs j = some v) : ∃ c : Cell, Arr Z h b c ty ∧ ¬ (j < 0 ∨ c.slots.size ≤ j.toNatClampNeg) ∧ c.slots[j.toNatClampNeg]? = some (f v) := by
  obtain ⟨-, c, A, r1, r2, -⟩ := F
  unfold own_get at g
  split at g
  · cases g
  · rename_i hj
    obtain ⟨hlt, hv⟩ := List.getElem?_eq_some_iff.mp g
    refine ⟨c, A, ?_, ?_⟩
    · rintro (q | q)
      · exact hj q
      · rw [r1] at q; simp at q; omega
    · rw [r1]; simp [g]
theorem own_A.room {α : Type} {f : α → Value} {vs vs' : List α} {j : Int32} {v : α} (F : own_A Z h b ty (vs.map f)) (g : own_set vs j v = some vs') : ∃ c : Cell, Arr Z h b c ty ∧ ¬ (j < 0 ∨ c.slots.size ≤ j.toNatClampNeg) ∧ vs' = vs.set j.toNatClampNeg v := by
  obtain ⟨-, c, A, r1, r2, -⟩ := F
  unfold own_set at g
  split at g
  · cases g
  · rename_i hj
    split at g
    · rename_i hlt
      refine ⟨c, A, ?_, (Option.some.inj g).symm⟩
      rintro (q | q)
      · exact hj q
      · rw [r1] at q; simp at q; omega
    · cases g
theorem own_iaload (X : Stand p l e R s m args below meth c T locs cells slots) (C : own_Ctx p s m meth c Z y bytes maxL rt) (eT : T.heap = h) {vs : List Int32} (F : own_AI Z h b .int vs) {j v : Int32} (g : own_get vs j = some v) {pc : Nat} {Ls : Array Slot} {rest : List Value} (hd : decode c.code pc = .ok (.iaload, 1)) :
    ∀ t, Steps p.tables e below (T.setTop (mkF m (pc + 1) Ls (.int v :: rest))) t → Steps p.tables e below (T.setTop (mkF m pc Ls (.int j :: .ref b :: rest))) t := by
  obtain ⟨hx, hZ, -⟩ := C
  obtain ⟨cl, A, hin, hat⟩ := own_A.place F g
  intro t k
  exact X.iaload hx (j := j) (v := .int v) (by rw [eT]; exact A.1) (State.isArrayOf_alike hZ.alike A.2.1) A.2.2 hin hat (g := mkF m pc Ls (.int j :: .ref b :: rest)) rfl rfl hd t k
theorem own_baload (X : Stand p l e R s m args below meth c T locs cells slots) (C : own_Ctx p s m meth c Z y bytes maxL rt) (eT : T.heap = h) {vs : List Int32} (F : own_AI Z h b .byte vs) {j v : Int32} (g : own_get vs j = some v) {pc : Nat} {Ls : Array Slot} {rest : List Value} (hd : decode c.code pc = .ok (.baload, 1)) :
    ∀ t, Steps p.tables e below (T.setTop (mkF m (pc + 1) Ls (.int v :: rest))) t → Steps p.tables e below (T.setTop (mkF m pc Ls (.int j :: .ref b :: rest))) t := by
  obtain ⟨hx, hZ, -⟩ := C
  obtain ⟨cl, A, hin, hat⟩ := own_A.place F g
  intro t k
  exact X.baloadBytes hx (j := j) (v := .int v) (by rw [eT]; exact A.1) (State.isArrayOf_alike hZ.alike A.2.1) A.2.2 hin hat (g := mkF m pc Ls (.int j :: .ref b :: rest)) rfl rfl hd t k
theorem own_laload (X : Stand p l e R s m args below meth c T locs cells slots) (C : own_Ctx p s m meth c Z y bytes maxL rt) (eT : T.heap = h) {vs : List Int64} (F : own_AJ Z h b .long vs) {j : Int32} {v : Int64} (g : own_get vs j = some v) {pc : Nat} {Ls : Array Slot} {rest : List Value} (hd : decode c.code pc = .ok (.laload, 1)) :
    ∀ t, Steps p.tables e below (T.setTop (mkF m (pc + 1) Ls (.long v :: rest))) t → Steps p.tables e below (T.setTop (mkF m pc Ls (.int j :: .ref b :: rest))) t := by
  obtain ⟨hx, hZ, -⟩ := C
  obtain ⟨cl, A, hin, hat⟩ := own_A.place F g
  intro t k
  exact X.laload hx (j := j) (v := .long v) (by rw [eT]; exact A.1) (State.isArrayOf_alike hZ.alike A.2.1) A.2.2 hin hat (g := mkF m pc Ls (.int j :: .ref b :: rest)) rfl rfl hd t k
theorem own_len (X : Stand p l e R s m args below meth c T locs cells slots) (C : own_Ctx p s m meth c Z y bytes maxL rt) (eT : T.heap = h) {vs : List Value} (F : own_A Z h b ty vs) {pc : Nat} {Ls : Array Slot} {rest : List Value} (hd : decode c.code pc = .ok (.arraylength, 1)) :
    ∀ t, Steps p.tables e below (T.setTop (mkF m (pc + 1) Ls (.int (Int32.ofNat vs.length) :: rest))) t → Steps p.tables e below (T.setTop (mkF m pc Ls (.ref b :: rest))) t := by
  obtain ⟨hx, hZ, -⟩ := C
  obtain ⟨-, cl, A, r1, r2, -⟩ := F
  intro t k
  refine X.arraylength hx (by rw [eT]; exact A.1) (State.isArrayOf_alike hZ.alike A.2.1) (g := mkF m pc Ls (.ref b :: rest)) rfl rfl hd t ?_
  have q : cl.slots.size.toInt32 = Int32.ofNat vs.length := by
    rw [r1, List.size_toArray]
  rw [q]; exact k
theorem own_lenI (X : Stand p l e R s m args below meth c T locs cells slots) (C : own_Ctx p s m meth c Z y bytes maxL rt) (eT : T.heap = h) {vs : List Int32} (F : own_AI Z h b ty vs) {pc : Nat} {Ls : Array Slot} {rest : List Value} (hd : decode c.code pc = .ok (.arraylength, 1)) :
    ∀ t, Steps p.tables e below (T.setTop (mkF m (pc + 1) Ls (.int (Int32.ofNat vs.length) :: rest))) t → Steps p.tables e below (T.setTop (mkF m pc Ls (.ref b :: rest))) t := by
  have k := own_len X C eT F (Ls := Ls) (rest := rest) hd
  rwa [List.length_map] at k
theorem own_lenJ (X : Stand p l e R s m args below meth c T locs cells slots) (C : own_Ctx p s m meth c Z y bytes maxL rt) (eT : T.heap = h) {vs : List Int64} (F : own_AJ Z h b ty vs) {pc : Nat} {Ls : Array Slot} {rest : List Value} (hd : decode c.code pc = .ok (.arraylength, 1)) :
    ∀ t, Steps p.tables e below (T.setTop (mkF m (pc + 1) Ls (.int (Int32.ofNat vs.length) :: rest))) t → Steps p.tables e below (T.setTop (mkF m pc Ls (.ref b :: rest))) t := by
  have k := own_len X C eT F (Ls := Ls) (rest := rest) hd
  rwa [List.length_map] at k
theorem own_iastore (X : Stand p l e R s m args below meth c T locs cells slots) (C : own_Ctx p s m meth c Z y bytes maxL rt) (eT : T.heap = h) {vs vs' : List Int32} (F : own_AI Z h b .int vs) {j x : Int32} (g : own_set vs j x = some vs') {pc : Nat} {Ls : Array Slot} {rest : List Value} (hd : decode c.code pc = .ok (.iastore, 1)) :
    ∃ T' h', Stand p l e R s m args below meth c T' (locs ++ [⟨b, j.toNatClampNeg⟩]) cells slots ∧ T'.heap = h' ∧ Wr h h' b j.toNatClampNeg (.int x) ∧ own_AI Z h' b .int vs' ∧
      ∀ t, Steps p.tables e below (T'.setTop (mkF m (pc + 1) Ls rest)) t → Steps p.tables e below (T.setTop (mkF m pc Ls (.int x :: .int j :: .ref b :: rest))) t := by
  obtain ⟨hx, hZ, -⟩ := C
  obtain ⟨cl, A, hin, rfl⟩ := own_A.room F g
  obtain ⟨T', h', X', e', W, st⟩ := stI X hx hZ eT A (j := j) (x := x) hin (g := mkF m pc Ls (.int x :: .int j :: .ref b :: rest)) rfl rfl hd
  refine ⟨T', h', X', e', W, ?_, st⟩
  have k := own_A.set F W rfl
  unfold own_AI
  rwa [List.map_set]
theorem own_lastore (X : Stand p l e R s m args below meth c T locs cells slots) (C : own_Ctx p s m meth c Z y bytes maxL rt) (eT : T.heap = h) {vs vs' : List Int64} (F : own_AJ Z h b .long vs) {j : Int32} {x : Int64} (g : own_set vs j x = some vs') {pc : Nat} {Ls : Array Slot} {rest : List Value} (hd : decode c.code pc = .ok (.lastore, 1)) :
    ∃ T' h', Stand p l e R s m args below meth c T' (locs ++ [⟨b, j.toNatClampNeg⟩]) cells slots ∧ T'.heap = h' ∧ Wr h h' b j.toNatClampNeg (.long x) ∧ own_AJ Z h' b .long vs' ∧
      ∀ t, Steps p.tables e below (T'.setTop (mkF m (pc + 1) Ls rest)) t → Steps p.tables e below (T.setTop (mkF m pc Ls (.long x :: .int j :: .ref b :: rest))) t := by
  obtain ⟨hx, hZ, -⟩ := C
  obtain ⟨cl, A, hin, rfl⟩ := own_A.room F g
  obtain ⟨T', h', X', e', W, st⟩ := stJ X hx hZ eT A (j := j) (x := x) hin (g := mkF m pc Ls (.long x :: .int j :: .ref b :: rest)) rfl rfl hd
  refine ⟨T', h', X', e', W, ?_, st⟩
  have k := own_A.set F W rfl
  unfold own_AJ
  rwa [List.map_set]
theorem own_bastore (X : Stand p l e R s m args below meth c T locs cells slots) (C : own_Ctx p s m meth c Z y bytes maxL rt) (eT : T.heap = h) {vs vs' : List Int32} (F : own_AI Z h b .byte vs) {j x : Int32} (g : own_set vs j (x.toInt8.toInt32) = some vs') {pc : Nat} {Ls : Array Slot} {rest : List Value} (hd : decode c.code pc = .ok (.bastore, 1)) :
    ∃ T' h', Stand p l e R s m args below meth c T' (locs ++ [⟨b, j.toNatClampNeg⟩]) cells slots ∧ T'.heap = h' ∧ Wr h h' b j.toNatClampNeg (.int (x.toInt8.toInt32)) ∧ own_AI Z h' b .byte vs' ∧
      ∀ t, Steps p.tables e below (T'.setTop (mkF m (pc + 1) Ls rest)) t → Steps p.tables e below (T.setTop (mkF m pc Ls (.int x :: .int j :: .ref b :: rest))) t := by
  obtain ⟨hx, hZ, -⟩ := C
  obtain ⟨cl, A, hin, rfl⟩ := own_A.room F g
  obtain ⟨T', h', X', e', W, st⟩ := stB X hx hZ eT A (j := j) (x := x) hin (g := mkF m pc Ls (.int x :: .int j :: .ref b :: rest)) rfl rfl hd
  refine ⟨T', h', X', e', W, ?_, st⟩
  have k := own_A.set F W (fits_nar_byte x)
  unfold own_AI
  rwa [List.map_set]
theorem own_newI (X : Stand p l e R s m args below meth c T locs cells slots) (C : own_Ctx p s m meth c Z y bytes maxL rt) (eT : T.heap = h) {aty : ArrayType} (hk : newarray.typeOf aty = ty) (hdv : defaultValue ty = .int 0) (hfz : fits ty (.int 0) = true) (w : (Cond.arrayClass ty).before a0 Z = true) {n : Int32} (hn : ¬ n < 0) {cap : Nat} (hcap : n.toNatClampNeg ≤ cap) (hb : cap * 8 ≤ 536870912) (hc : cells + 1 ≤ R.cells) (hl : slots + cap ≤ R.slots)
    {pc : Nat} {Ls : Array Slot} {rest : List Value} (hd : decode c.code pc = .ok (.newarray aty, 2)) :
    ∃ T' h' b, Stand p l e R s m args below meth c T' locs (cells + 1) (slots + cap) ∧ T'.heap = h' ∧ Ext h h' ∧ b = h.size ∧ own_AI Z h' b ty (List.replicate n.toNatClampNeg 0) ∧
      ∀ t, Steps p.tables e below (T'.setTop (mkF m (pc + 2) Ls (.ref b :: rest))) t → Steps p.tables e below (T.setTop (mkF m pc Ls (.int n :: rest))) t := by
  obtain ⟨hx, hZ, -⟩ := C
  subst hk
  obtain ⟨T', h', k, X', e', E, A, Q, st⟩ := newPE X hx hZ w eT (g := mkF m pc Ls (.int n :: rest)) rfl hd rfl hn (cap := cap) hcap hb hc hl rfl
  refine ⟨T', h', h.size, X', e', E, rfl, ⟨Q, _, A, ?_, ?_, ?_⟩, st⟩
  · show Array.replicate _ _ = _
    rw [hdv]; simp
  · rw [List.map_replicate, List.length_replicate]; omega
  · intro v hv
    rw [List.map_replicate] at hv
    rw [List.eq_of_mem_replicate hv]
    exact hfz
theorem own_newJ (X : Stand p l e R s m args below meth c T locs cells slots) (C : own_Ctx p s m meth c Z y bytes maxL rt) (eT : T.heap = h) {aty : ArrayType} (hk : newarray.typeOf aty = ty) (hdv : defaultValue ty = .long 0) (hfz : fits ty (.long 0) = true) (w : (Cond.arrayClass ty).before a0 Z = true) {n : Int32} (hn : ¬ n < 0) {cap : Nat} (hcap : n.toNatClampNeg ≤ cap) (hb : cap * 8 ≤ 536870912) (hc : cells + 1 ≤ R.cells) (hl : slots + cap ≤ R.slots)
    {pc : Nat} {Ls : Array Slot} {rest : List Value} (hd : decode c.code pc = .ok (.newarray aty, 2)) :
    ∃ T' h' b, Stand p l e R s m args below meth c T' locs (cells + 1) (slots + cap) ∧ T'.heap = h' ∧ Ext h h' ∧ b = h.size ∧ own_AJ Z h' b ty (List.replicate n.toNatClampNeg 0) ∧
      ∀ t, Steps p.tables e below (T'.setTop (mkF m (pc + 2) Ls (.ref b :: rest))) t → Steps p.tables e below (T.setTop (mkF m pc Ls (.int n :: rest))) t := by
  obtain ⟨hx, hZ, -⟩ := C
  subst hk
  obtain ⟨T', h', k, X', e', E, A, Q, st⟩ := newPE X hx hZ w eT (g := mkF m pc Ls (.int n :: rest)) rfl hd rfl hn (cap := cap) hcap hb hc hl rfl
  refine ⟨T', h', h.size, X', e', E, rfl, ⟨Q, _, A, ?_, ?_, ?_⟩, st⟩
  · show Array.replicate _ _ = _
    rw [hdv]; simp
  · rw [List.map_replicate, List.length_replicate]; omega
  · intro v hv
    rw [List.map_replicate] at hv
    rw [List.eq_of_mem_replicate hv]
    exact hfz
end Own
end Jvm.Pilot.@@N@@
namespace Jvm.Pilot.@@N@@
open Jvm Jvm.ClassFile Sem Op Lib Jvm.Free Jvm.Stand Jvm.LawKit Jvm.RoadKit Bundle Jvm.Pilot.@@N@@.Jvm.D
/-- System.arraycopy on lists -/
def own_copyL {α : Type} (vs : List α) (sp : Int32) (ws : List α) (dp n : Int32) : Option (List α) :=
  if sp < 0 ∨ dp < 0 ∨ n < 0 ∨ vs.length < sp.toNatClampNeg + n.toNatClampNeg ∨ ws.length < dp.toNatClampNeg + n.toNatClampNeg then none
  else some (ws.take dp.toNatClampNeg ++ (vs.drop sp.toNatClampNeg).take n.toNatClampNeg ++ ws.drop (dp.toNatClampNeg + n.toNatClampNeg))
section Own
variable {p : Program} {l : Launch} {e : Env} {R : Room} {s : State} {m : MethodId} {args : Array Value} {below : List Frame} {meth : Method} {c : Code} {T T' : State} {locs : List Loc} {cells slots : Nat} {Z : State} {a0 : Array Value} {y : MethodName} {bytes : ByteArray} {maxL : Nat} {rt : Option FieldType} {h h' : Heap} {a b : Addr} {ty : FieldType}
theorem own_n32 {n : Nat} (hn : n < 2147483648) : (Int32.ofNat n).toNatClampNeg = n ∧ ¬ Int32.ofNat n < 0 := by
  have q : (Int32.ofNat n).toInt = n := Int32.toInt_ofNat_of_lt (by show n < 2 ^ 31; omega)
  refine ⟨?_, ?_⟩
  · show (Int32.ofNat n).toInt.toNat = n
    rw [q]; rfl
  · rw [Int32.lt_iff_toInt_lt, q]
    show ¬ (n : Int) < 0
    omega
theorem own_A.arv {vs : List Value} (F : own_A Z h b ty vs) (dv : Value) : ∃ k, Arv Z h b k ty (Int32.ofNat vs.length) vs dv := by
  obtain ⟨-, c, A, r1, r2, r3⟩ := F
  obtain ⟨q1, q2⟩ := own_n32 r2
  have hsz : c.slots.size = vs.length := by rw [r1]; simp
  refine ⟨c.cls, c, A, rfl, by rw [q1, hsz], q2, ?_, ?_⟩
  · intro k hk
    rw [hsz] at hk
    rw [r1]
    simp [hk]
  · intro i hi
    rw [hsz] at hi
    have : vs.getD i dv = vs[i] := by simp [hi]
    rw [this]
    exact r3 _ (List.getElem_mem hi)
theorem own_Arv.back {vs : List Value} {k : ClassId} {dv : Value} (Q : Exa Z h b ("[" ++ ty.toString)) (F : Arv Z h b k ty (Int32.ofNat vs.length) vs dv) (hl : vs.length < 2147483648) : own_A Z h b ty vs := by
  obtain ⟨c, A, -, S, N, H, G⟩ := F
  obtain ⟨q1, q2⟩ := own_n32 hl
  rw [q1] at S
  refine ⟨Q, c, A, ?_, hl, ?_⟩
  · apply Array.ext
    · simp [S]
    · intro i h1 h2
      have w := H i h1
      rw [Array.getElem?_eq_getElem h1] at w
      have hi : i < vs.length := by rw [← S]; exact h1
      simp [hi] at w
      rw [w]; simp
  · intro v hv
    obtain ⟨i, hi, rfl⟩ := List.mem_iff_getElem.mp hv
    have w := G i (by rw [S]; exact hi)
    simpa [hi] using w
theorem own_range (vs : List Value) (dv : Value) (sp n : Nat) (hn : sp + n ≤ vs.length) : (vs.drop sp).take n = (List.range n).map fun i => vs.getD (sp + i) dv := by
  apply List.ext_getElem
  · simp; omega
  · intro i h1 h2
    have hi : sp + i < vs.length := by simp at h1; omega
    simp [hi]
theorem own_copy (X : Stand p l e R s m args below meth c T locs cells slots) (C : own_Ctx p s m meth c Z y bytes maxL rt) (eT : T.heap = h) {idx : Nat} (w1 : (Cond.methodLink y.cls idx Jvm.Stand.acN).before a0 Z = true) (w2 : (Cond.native Jvm.Stand.acN).before a0 Z = true) (w3 : (Cond.static Jvm.Stand.acN).before a0 Z = true) (w4 : (Cond.initialized "java/lang/System").before a0 Z = true)
    {vs ws us : List Int32} (hty : refKind ty = false) (F : own_AI Z h a ty vs) (G : own_AI Z h b ty ws) {sp dp n : Int32} (g : own_copyL vs sp ws dp n = some us) {n0 : Nat} (N : Fr n0 locs) (ge : n0 ≤ b)
    {pc : Nat} {Ls : Array Slot} (hsz : Ls.size = maxL) {rest : List Value} (hd : decode c.code pc = .ok (.invokestatic idx, 3)) (hf : 1 ≤ R.frames) {W : Nat} (hW : (rest.map fun v => v.category).sum ≤ W) (hlo : W + (nativeFrameWords "java/lang/System" "arraycopy" 5 + 11) ≤ R.locals) :
    ∃ T' h' L, Stand p l e R s m args below meth c T' L cells slots ∧ T'.heap = h' ∧ Fr n0 L ∧ Keep h h' [b] ∧ own_AI Z h' b ty us ∧
      ∀ t, Steps p.tables e below (T'.setTop (mkF m (pc + 3) Ls rest)) t → Steps p.tables e below (T.setTop (mkF m pc Ls (.int n :: .int dp :: .ref b :: .int sp :: .ref a :: rest))) t := by
  obtain ⟨hx, hZ, hby, hml, hown, hnm, hr, hlk⟩ := C
  unfold own_copyL at g
  split at g
  · cases g
  · rename_i hno
    simp only [not_or, Nat.not_lt] at hno
    obtain ⟨k1, k2, k3, k4, k5⟩ := hno
    obtain ⟨ka, A⟩ := own_A.arv F (.int 0)
    obtain ⟨kb, B⟩ := own_A.arv G (.int 0)
    have lF : (vs.map Value.int).length < 2147483648 := by obtain ⟨-, _, _, _, q, _⟩ := F; exact q
    have lG : (ws.map Value.int).length < 2147483648 := by obtain ⟨-, _, _, _, q, _⟩ := G; exact q
    obtain ⟨q1, -⟩ := own_n32 lF
    obtain ⟨q2, -⟩ := own_n32 lG
    obtain ⟨T', h', L, X', e', N', K, V, st⟩ := cpA X hx hZ hown w1 w2 w3 w4 eT A B (Or.inl ⟨rfl, hty⟩) (sp := sp) (dp := dp) (nn := n) k1 k2 k3 (by rw [q1, List.length_map]; exact k4) (by rw [q2, List.length_map]; exact k5) rfl (by rw [List.length_map]; exact k5) N ge (g := mkF m pc Ls (.int n :: .int dp :: .ref b :: .int sp :: .ref a :: rest)) rfl (by rw [hml]; exact hsz) rfl hd hf (W := W) (by show 2 * 0 + _ ≤ _; omega) hlo
    refine ⟨T', h', L, X', e', N', K, ?_, st⟩
    have e1 := own_range (vs.map Value.int) (.int 0) sp.toNatClampNeg n.toNatClampNeg (by rw [List.length_map]; exact k4)
    rw [← e1] at V
    have e2 : (ws.map Value.int).take dp.toNatClampNeg ++ ((vs.map Value.int).drop sp.toNatClampNeg).take n.toNatClampNeg ++ (ws.map Value.int).drop (dp.toNatClampNeg + n.toNatClampNeg) = us.map Value.int := by
      rw [← Option.some.inj g]
      simp [List.map_take, List.map_drop]
    rw [e2] at V
    have e3 : (us.map Value.int).length = (ws.map Value.int).length := by
      rw [← e2]; simp; omega
    rw [← e3] at V
    exact own_Arv.back (G.1.keep K) V (by rw [e3]; exact lG)
theorem own_clone (X : Stand p l e R s m args below meth c T locs cells slots) (C : own_Ctx p s m meth c Z y bytes maxL rt) (eT : T.heap = h) {idx : Nat} {ad : String} (had : "[" ++ ty.toString = ad) (w1 : (Cond.methodLink y.cls idx ⟨ad, "clone", "()Ljava/lang/Object;"⟩).before a0 Z = true) (w2 : (Cond.sameMethod ad "java/lang/Object" "clone" "()Ljava/lang/Object;").before a0 Z = true) (w3 : (Cond.native ⟨"java/lang/Object", "clone", "()Ljava/lang/Object;"⟩).before a0 Z = true)
    (w4 : (Cond.instanceMethod ⟨"java/lang/Object", "clone", "()Ljava/lang/Object;"⟩).before a0 Z = true) (w5 : (Cond.selects ad ⟨ad, "clone", "()Ljava/lang/Object;"⟩ ⟨"java/lang/Object", "clone", "()Ljava/lang/Object;"⟩).before a0 Z = true) (w6 : (Cond.castable ad "java/lang/Cloneable").before a0 Z = true)
    {vs : List Int32} (F : own_AI Z h a ty vs) {pc : Nat} {Ls : Array Slot} (hsz : Ls.size = maxL) {rest : List Value} (hd : decode c.code pc = .ok (.invokevirtual idx, 3)) (hf : 1 ≤ R.frames) {W cap : Nat} (hW : (rest.map fun v => v.category).sum ≤ W) (hl : W + 14 ≤ R.locals) (hcap : vs.length ≤ cap) (hc : cells + 1 ≤ R.cells) (hsl : slots + cap ≤ R.slots) :
    ∃ T' h' b, Stand p l e R s m args below meth c T' locs (cells + 1) (slots + cap) ∧ T'.heap = h' ∧ Ext h h' ∧ b = h.size ∧ own_AI Z h' b ty vs ∧
      ∀ t, Steps p.tables e below (T'.setTop (mkF m (pc + 3) Ls (.ref b :: rest))) t → Steps p.tables e below (T.setTop (mkF m pc Ls (.ref a :: rest))) t := by
  obtain ⟨hx, hZ, hby, hml, hown, hnm, hr, hlk⟩ := C
  subst had
  obtain ⟨k, A⟩ := own_A.arv F (.int 0)
  have lF : (vs.map Value.int).length < 2147483648 := by obtain ⟨-, _, _, _, q, _⟩ := F; exact q
  obtain ⟨q1, -⟩ := own_n32 lF
  obtain ⟨T', h', X', e', E, A', Q, st⟩ := cloneH X hx hZ hown w1 w2 w3 w4 w5 w6 eT (Arv.arh A) F.1 (g := mkF m pc Ls (.ref a :: rest)) rfl (by rw [hml]; exact hsz) rfl hd hf (W := W) (cap := cap) (by show 2 * 0 + _ ≤ _; omega) hl (by rw [q1, List.length_map]; exact hcap) hc hsl
  exact ⟨T', h', h.size, X', e', E, rfl, own_Arv.back Q A' lF, st⟩
theorem own_castA (X : Stand p l e R s m args below meth c T locs cells slots) (C : own_Ctx p s m meth c Z y bytes maxL rt) (eT : T.heap = h) {idx : Nat} {ad : String} (had : "[" ++ ty.toString = ad) (w : (Cond.classLink y.cls idx ad).before a0 Z = true) {vs : List Int32} (F : own_AI Z h a ty vs) {pc : Nat} {Ls : Array Slot} {rest : List Value} (hd : decode c.code pc = .ok (.checkcast idx, 3)) :
    ∃ T', Stand p l e R s m args below meth c T' locs cells slots ∧ T'.heap = h ∧ ∀ t, Steps p.tables e below (T'.setTop (mkF m (pc + 3) Ls (.ref a :: rest))) t → Steps p.tables e below (T.setTop (mkF m pc Ls (.ref a :: rest))) t := by
  obtain ⟨hx, hZ, hby, hml, hown, hnm, hr, hlk⟩ := C
  subst had
  exact castY X hx hZ hown w eT (Ins.self F.1) (g := mkF m pc Ls (.ref a :: rest)) rfl rfl hd
/-- a private method is the one that is selected: out of another method's word on the same class -/
theorem own_selP {y y2 : MethodName} (hc : y2.cls = y.cls) (w2 : (Cond.selects y2.cls y2 y2).before a0 Z = true) (wi : (Cond.instanceMethod y).before a0 Z = true) (wp : (Cond.privateMethod y).before a0 Z = true) (hy : y.cls ≠ "java/lang/invoke/MethodHandle" ∧ y.cls ≠ "java/lang/invoke/VarHandle") : (Cond.selects y.cls y y).before a0 Z = true := by
  obtain ⟨mk, methM, hnamed, hmethM, hstM, habM⟩ := Cond.instanceMethod_spec wi
  obtain ⟨c, r, m2, q1, q2, q3, q4, kP, hkP, hkPi⟩ := Cond.selects_spec w2
  have hf := State.methodFound?_of_named hnamed hy
  have e1 := findClass_of_methodNamed hnamed
  have e2 := findClass_of_methodNamed q3
  rw [hc] at e2
  have e3 : mk.cls = m2.cls := Option.some.inj (e1.symm.trans e2)
  have hsel : selectMethod {} Z.vm mk.cls mk = .method mk := selectMethod_private hmethM (Cond.privateMethod_at wp mk methM hnamed hmethM)
  rw [← e3] at hkP
  simp [Cond.before, Cond.holds, Cond.value, e1, hf, hnamed, hsel, hkP, hkPi]
/-- a private instance method by its contract -/
theorem own_callR (X : Stand p l e R s m args below meth c T locs cells slots) (C : own_Ctx p s m meth c Z y bytes maxL rt) {idx : Nat} {y' : MethodName} {bytes' : ByteArray} {maxL' : Nat} {rt' : Option FieldType} {rm' : Room} {a : Addr} {argsL rest : List Value} {h : Heap} {P' : Option Value → Heap → List Loc → Prop}
    (hM : own_Met l Z y' bytes' maxL' rt' [] rm' (.ref a :: argsL).toArray h P') (w1 : (Cond.methodLink y.cls idx y').before a0 Z = true) (wsel : (Cond.selects y'.cls y' y').before a0 Z = true) (wp : (Cond.privateMethod y').before a0 Z = true) (w2 : (Cond.instanceMethod y').before a0 Z = true) (w3 : (Cond.initialized y'.cls).before a0 Z = true) (w4 : (Cond.code y' bytes' maxL' rt').before a0 Z = true)
    (hy : y'.cls ≠ "java/lang/invoke/MethodHandle" ∧ y'.cls ≠ "java/lang/invoke/VarHandle") (eT : T.heap = h) {cn : String} (E : Exa Z h a cn) {W : Nat} {pc : Nat} {Ls : Array Slot} (hsz : Ls.size = maxL) (hlen : ∀ sig, parseMethodDescriptor y'.desc = some sig → argsL.length = sig.parameters.length)
    {stk : List Value} (hst : stk = argsL.reverse ++ .ref a :: rest) (hW : (rest.map fun v => v.category).sum ≤ W) (hd : decode c.code pc = .ok (.invokevirtual idx, 3))
    (hf : rm'.frames + 1 ≤ R.frames) (hl : W + (maxL' + 11) + rm'.locals ≤ R.locals) (hc : cells + rm'.cells ≤ R.cells) (hs : slots + rm'.slots ≤ R.slots) :
    ∃ T' v L, Stand p l e R s m args below meth c T' (locs ++ L) (cells + rm'.cells) (slots + rm'.slots) ∧ P' v T'.heap L ∧ ∀ t, Steps p.tables e below (T'.setTop (mkF m (pc + 3) Ls (v.toList ++ rest))) t → Steps p.tables e below (T.setTop (mkF m pc Ls stk)) t := by
  obtain ⟨hx, hZ, hby, hml, hown, hnm, hr, hlk⟩ := C
  obtain ⟨cq, q, q'⟩ := E.cell
  obtain ⟨v, _, ⟨T', L', k', n'⟩, -, X', ⟨L, hQ, hl', hk', hn'⟩, st⟩ := X.privateBack hx (y := y') hown (mvT hZ w1) (mvT hZ w2) (mvT hZ wsel) (Cond.privateMethod_at (mvP hZ wp (args := #[]))) (mvT hZ w4) hy (backOf (W := W) hM hZ w4 w3 hf hl) (g := mkF m pc Ls stk) rfl (by rw [hml]; exact hsz) (Steps.refl _) (a := a) (by rw [eT]; exact q) q' (argsL := argsL) (rest := rest) hlen hst (by show 2 * 0 + _ ≤ _; omega) hd (fun _ _ => ⟨rfl, eT, hc, hs⟩)
  dsimp only [Pt.U, Pt.locs, Pt.cells, Pt.slots] at X' hl' hk' hn' st hQ
  subst hl' hk' hn'
  exact ⟨T', v, L, X', hQ, fun t k => st.trans k⟩
end Own
end Jvm.Pilot.@@N@@
namespace Jvm.Pilot.@@N@@
open Jvm Jvm.ClassFile Sem Op Lib Jvm.Free Jvm.Stand Jvm.LawKit Jvm.RoadKit Bundle Jvm.Pilot.@@N@@.Jvm.D
theorem d2_0 : decode jdk_30_method_1_code 0 = .ok (.aload_n 0, 1) := by decide +kernel
theorem d2_1 : decode jdk_30_method_1_code 1 = .ok (.invokespecial 1, 3) := by decide +kernel
theorem d2_4 : decode jdk_30_method_1_code 4 = .ok (.return_, 1) := by decide +kernel
def rmR2 : Room := { frames := 1, cells := 0, slots := 0, locals := 12 }
def E2 (Z : State) (h0 : Heap) (o0 : Nat)  (rr : Unit) (v : Option Value) (h : Heap) : Prop := v = none
def f2_0  : Option (Unit) := (some ())
set_option maxRecDepth 65536 in
set_option maxHeartbeats 40000000 in
theorem b2_0 {p : Program} {l : Launch} {e : Env} {s : State} {m : MethodId} {args : Array Value} {below : List Frame} {meth : Method} {c : Code} {Z : State} {a0 : Array Value} {h0 : Heap} {n0 : Nat} {P : Option Value → Heap → List Loc → Prop} (hw : ∀ d ∈ tables_1, d.before a0 Z = true) (C : own_Ctx p s m meth c Z (⟨"java/lang/Record", "<init>", "()V"⟩ : MethodName) jdk_30_method_1_code 1 none) (Z0 : n0 ≤ h0.size) {o0 : Nat}  (rr : Unit) (hP : ∀ v h L, Fr n0 L → Keep h0 h [] → E2 Z h0 o0 rr v h → P v h L)
    {T : State} {locs : List Loc} {h : Heap} (X : Stand p l e rmR2 s m args below meth c T locs 0 0) (e0 : T.heap = h) (N : Fr n0 locs) (K : Keep h0 h []) (hv : f2_0 = some rr) :
    own_WP p e below (own_Q s P rmR2.cells rmR2.slots) T (mkF m 0 #[.val (.ref o0)] []) := by
  obtain ⟨hx, hZ, hby, hml, hown, hnm, hret, hlk⟩ := id C
  replace hown : s.vm.findClass "java/lang/Record" = some m.cls := hown
  unfold f2_0 at hv
  show own_WP p e below _ T (mkF m 0 #[.val (.ref o0)] [])
  refine own_go (fun _ => XS.aloadN X.here hx rfl (hb hby d2_0) rfl rfl) ?_
  show own_WP p e below _ T (mkF m 1 #[.val (.ref o0)] [(.ref o0)])
  obtain ⟨T1, X1, e1, st1⟩ := initO X hx hZ hown (hw _ (List.mem_of_getElem? (i := 13) rfl)) (hw _ (List.mem_of_getElem? (i := 14) rfl)) (hw _ (List.mem_of_getElem? (i := 15) rfl)) e0 (g := (mkF m 1 #[.val (.ref o0)] [(.ref o0)])) rfl (by rw [hml]; rfl) rfl (hb hby d2_1) (by decide) (W := 0) (by show 2 * 0 + _ ≤ _; exact Nat.le_of_eq rfl) (by decide)
  refine own_go st1 ?_
  show own_WP p e below _ T1 (mkF m 4 #[.val (.ref o0)] [])
  obtain rfl := Option.some.inj hv
  exact own_retV X1 C (hb hby d2_4) (by rw [e1]; exact hP _ _ _ N K rfl) (by decide) (by decide)
theorem ef2 (m : MethodId) (o0 : Nat) : entryFrame m #[(.ref o0)] 1 = (mkF m 0 #[.val (.ref o0)] []) := by first | (simp [entryFrame, mkF, argsToLocals, Value.category]; done) | rfl
theorem pd2 : parseMethodDescriptor "()V" = some ⟨[], none⟩ := by decide +kernel
theorem pn2 : plainFor (⟨"java/lang/Record", "<init>", "()V"⟩ : MethodName) = true := plainFor_of_name (by first | (simp [plainName, overriddenIn]; done) | decide +kernel)
theorem rm2 (l : Launch) (Z : State) (a0 : Array Value) (hw : ∀ d ∈ tables_1, d.before a0 Z = true) (n0 : Nat) (h0 : Heap) (Z0 : n0 ≤ h0.size) {o0 : Nat}       (rr : Unit) (hf : f2_0 = some rr) :
    own_Met l Z (⟨"java/lang/Record", "<init>", "()V"⟩ : MethodName) jdk_30_method_1_code 1 none [] rmR2 #[(.ref o0)] h0 (fun v h L => Fr n0 L ∧ Keep h0 h [] ∧ E2 Z h0 o0 rr v h) := by
  refine own_body pn2 ?_
  intro p e s m below meth c s₁ C X e0
  exact own_cast (ef2 m o0) (b2_0 hw C Z0 rr (fun v h L a b c => ⟨a, b, c⟩) X e0 (Fr.nil n0) (Keep.refl h0 [])  hf)
theorem d1_0 : decode prog_106_method_2_code 0 = .ok (.aload_n 0, 1) := by decide +kernel
theorem d1_1 : decode prog_106_method_2_code 1 = .ok (.invokespecial 3, 3) := by decide +kernel
theorem d1_4 : decode prog_106_method_2_code 4 = .ok (.aload_n 0, 1) := by decide +kernel
theorem d1_5 : decode prog_106_method_2_code 5 = .ok (.iload_n 1, 1) := by decide +kernel
theorem d1_6 : decode prog_106_method_2_code 6 = .ok (.putfield 9, 3) := by decide +kernel
theorem d1_9 : decode prog_106_method_2_code 9 = .ok (.aload_n 0, 1) := by decide +kernel
theorem d1_10 : decode prog_106_method_2_code 10 = .ok (.iload_n 2, 1) := by decide +kernel
theorem d1_11 : decode prog_106_method_2_code 11 = .ok (.putfield 13, 3) := by decide +kernel
theorem d1_14 : decode prog_106_method_2_code 14 = .ok (.aload_n 0, 1) := by decide +kernel
theorem d1_15 : decode prog_106_method_2_code 15 = .ok (.iload_n 3, 1) := by decide +kernel
theorem d1_16 : decode prog_106_method_2_code 16 = .ok (.putfield 16, 3) := by decide +kernel
theorem d1_19 : decode prog_106_method_2_code 19 = .ok (.aload_n 0, 1) := by decide +kernel
theorem d1_20 : decode prog_106_method_2_code 20 = .ok (.aload 4, 2) := by decide +kernel
theorem d1_22 : decode prog_106_method_2_code 22 = .ok (.putfield 19, 3) := by decide +kernel
theorem d1_25 : decode prog_106_method_2_code 25 = .ok (.aload_n 0, 1) := by decide +kernel
theorem d1_26 : decode prog_106_method_2_code 26 = .ok (.iload 5, 2) := by decide +kernel
theorem d1_28 : decode prog_106_method_2_code 28 = .ok (.putfield 23, 3) := by decide +kernel
theorem d1_31 : decode prog_106_method_2_code 31 = .ok (.return_, 1) := by decide +kernel
def rmR1 : Room := { frames := 2, cells := 0, slots := 0, locals := 24 }
def E1 (Z : State) (h0 : Heap) (o0 : Nat) (o4 : Nat)  (rr : Int32 × Int32 × Int32 × Int32) (v : Option Value) (h : Heap) : Prop := v = none ∧ Exa Z h o0 "com/example/objwire/objwire/rpc/Pdu" ∧ Fld Z h o0 "com/example/objwire/objwire/rpc/Pdu" "type" "I" (.int (rr.1)) ∧ Fld Z h o0 "com/example/objwire/objwire/rpc/Pdu" "flags" "I" (.int (rr.2.1)) ∧ Fld Z h o0 "com/example/objwire/objwire/rpc/Pdu" "callId" "I" (.int (rr.2.2.1)) ∧ Fld Z h o0 "com/example/objwire/objwire/rpc/Pdu" "body" "[B" (.ref o4) ∧ Fld Z h o0 "com/example/objwire/objwire/rpc/Pdu" "authLength" "I" (.int (rr.2.2.2))
def f1_0 (x1 : Int32) (x2 : Int32) (x3 : Int32) (x5 : Int32) : Option (Int32 × Int32 × Int32 × Int32) := (f2_0.bind fun rr1 => (some (x1, x2, x3, x5)))
set_option maxRecDepth 65536 in
set_option maxHeartbeats 40000000 in
theorem b1_0 {p : Program} {l : Launch} {e : Env} {s : State} {m : MethodId} {args : Array Value} {below : List Frame} {meth : Method} {c : Code} {Z : State} {a0 : Array Value} {h0 : Heap} {n0 : Nat} {P : Option Value → Heap → List Loc → Prop} (hw : ∀ d ∈ tables_1, d.before a0 Z = true) (C : own_Ctx p s m meth c Z (⟨"com/example/objwire/objwire/rpc/Pdu", "<init>", "(III[BI)V"⟩ : MethodName) prog_106_method_2_code 6 none) (Z0 : n0 ≤ h0.size) {o0 : Nat} {o4 : Nat}  (rr : Int32 × Int32 × Int32 × Int32) (hP : ∀ v h L, Fr n0 L → Keep h0 h [o0] → E1 Z h0 o0 o4 rr v h → P v h L)
    {T : State} {locs : List Loc} {h : Heap} {c_o0_type : Int32} {c_o0_flags : Int32} {c_o0_callId : Int32} {c_o0_authLength : Int32} (X : Stand p l e rmR1 s m args below meth c T locs 0 0) (e0 : T.heap = h) (N : Fr n0 locs) (K : Keep h0 h [o0]) (g_o0 : n0 ≤ o0) (E_o0 : Exa Z h o0 "com/example/objwire/objwire/rpc/Pdu") (F_o0_type : Fld Z h o0 "com/example/objwire/objwire/rpc/Pdu" "type" "I" (.int c_o0_type)) (F_o0_flags : Fld Z h o0 "com/example/objwire/objwire/rpc/Pdu" "flags" "I" (.int c_o0_flags)) (F_o0_callId : Fld Z h o0 "com/example/objwire/objwire/rpc/Pdu" "callId" "I" (.int c_o0_callId)) (F_o0_body : Fld Z h o0 "com/example/objwire/objwire/rpc/Pdu" "body" "[B" .null) (F_o0_authLength : Fld Z h o0 "com/example/objwire/objwire/rpc/Pdu" "authLength" "I" (.int c_o0_authLength)) (x1 : Int32) (x2 : Int32) (x3 : Int32) (x5 : Int32) (hv : f1_0 x1 x2 x3 x5 = some rr) :
    own_WP p e below (own_Q s P rmR1.cells rmR1.slots) T (mkF m 0 #[.val (.ref o0), .val (.int x1), .val (.int x2), .val (.int x3), .val (.ref o4), .val (.int x5)] []) := by
  obtain ⟨hx, hZ, hby, hml, hown, hnm, hret, hlk⟩ := id C
  replace hown : s.vm.findClass "com/example/objwire/objwire/rpc/Pdu" = some m.cls := hown
  unfold f1_0 at hv
  show own_WP p e below _ T (mkF m 0 #[.val (.ref o0), .val (.int x1), .val (.int x2), .val (.int x3), .val (.ref o4), .val (.int x5)] [])
  refine own_go (fun _ => XS.aloadN X.here hx rfl (hb hby d1_0) rfl rfl) ?_
  show own_WP p e below _ T (mkF m 1 #[.val (.ref o0), .val (.int x1), .val (.int x2), .val (.int x3), .val (.ref o4), .val (.int x5)] [(.ref o0)])
  obtain ⟨rr1, hf1, hv⟩ := own_bind hv
  obtain ⟨T1, v1, L1, X1, ⟨N1, K1, Q1⟩, st1⟩ := own_callN X C (a := o0) (argsL := []) (rm2 l Z a0 hw n0 h (by have q := K.1; omega) (o0 := o0) rr1 hf1) rfl (hw _ (List.mem_of_getElem? (i := 8) rfl)) (hw _ (List.mem_of_getElem? (i := 9) rfl)) (hw _ (List.mem_of_getElem? (i := 11) rfl)) (hw _ (List.mem_of_getElem? (i := 12) rfl)) (by decide) e0 (W := 0) (pc := 1) (Ls := #[.val (.ref o0), .val (.int x1), .val (.int x2), .val (.int x3), .val (.ref o4), .val (.int x5)]) rfl (lenOf pd2 rfl) (rest := []) (stk := [(.ref o0)]) rfl (Nat.le_of_ble_eq_true rfl) (hb hby d1_1) (by decide) (by decide) (by decide) (by decide)
  replace N := Fr.app N N1
  replace E_o0 := E_o0.keep K1
  replace F_o0_type := F_o0_type.keep K1 nin0
  replace F_o0_flags := F_o0_flags.keep K1 nin0
  replace F_o0_callId := F_o0_callId.keep K1 nin0
  replace F_o0_body := F_o0_body.keep K1 nin0
  replace F_o0_authLength := F_o0_authLength.keep K1 nin0
  obtain ⟨rfl⟩ := Q1
  replace K := K.trans K1 all0
  refine own_go st1 ?_
  show own_WP p e below _ T1 (mkF m 4 #[.val (.ref o0), .val (.int x1), .val (.int x2), .val (.int x3), .val (.ref o4), .val (.int x5)] [])
  refine own_go (fun _ => XS.aloadN X1.here hx rfl (hb hby d1_4) rfl rfl) ?_
  show own_WP p e below _ T1 (mkF m 5 #[.val (.ref o0), .val (.int x1), .val (.int x2), .val (.int x3), .val (.ref o4), .val (.int x5)] [(.ref o0)])
  refine own_go (fun _ => XS.iloadN X1.here hx rfl (hb hby d1_5) rfl) ?_
  show own_WP p e below _ T1 (mkF m 6 #[.val (.ref o0), .val (.int x1), .val (.int x2), .val (.int x3), .val (.ref o4), .val (.int x5)] [(.int x1), (.ref o0)])
  obtain ⟨T2, h2, X2, e2, W2, st2⟩ := putF X1 hx hZ hown (host := "") (Or.inl (hw _ (List.mem_of_getElem? (i := 16) rfl))) Via.refl (rfl : T1.heap = T1.heap) F_o0_type E_o0 (Or.inr ⟨(hw _ (List.mem_of_getElem? (i := 17) rfl)), rfl, hnm⟩) (hw _ (List.mem_of_getElem? (i := 3) rfl)) (ty := .int) (by decide) rfl rfl (g := (mkF m 6 #[.val (.ref o0), .val (.int x1), .val (.int x2), .val (.int x3), .val (.ref o4), .val (.int x5)] [(.int x1), (.ref o0)])) rfl rfl (hb hby d1_6)
  refine own_go st2 ?_
  replace E_o0 := E_o0.wr W2
  replace F_o0_type := F_o0_type.same W2
  replace F_o0_flags := F_o0_flags.other W2 (Or.inr (slot_ne (Or.inr (hw _ (List.mem_of_getElem? (i := 19) rfl))) (Or.inr (hw _ (List.mem_of_getElem? (i := 17) rfl))) (by decide) (t := .int) (t' := .int) (by decide) (by decide)))
  replace F_o0_callId := F_o0_callId.other W2 (Or.inr (slot_ne (Or.inr (hw _ (List.mem_of_getElem? (i := 21) rfl))) (Or.inr (hw _ (List.mem_of_getElem? (i := 17) rfl))) (by decide) (t := .int) (t' := .int) (by decide) (by decide)))
  replace F_o0_body := F_o0_body.other W2 (Or.inr (slot_ne (Or.inr (hw _ (List.mem_of_getElem? (i := 23) rfl))) (Or.inr (hw _ (List.mem_of_getElem? (i := 17) rfl))) (by decide) (t := (.array .byte)) (t' := .int) (by decide) (by decide)))
  replace F_o0_authLength := F_o0_authLength.other W2 (Or.inr (slot_ne (Or.inr (hw _ (List.mem_of_getElem? (i := 25) rfl))) (Or.inr (hw _ (List.mem_of_getElem? (i := 17) rfl))) (by decide) (t := .int) (t' := .int) (by decide) (by decide)))
  replace K := K.wr W2 (Or.inl (List.mem_of_getElem? (i := 0) rfl))
  replace N := Fr.snoc X2 N (by omega)
  show own_WP p e below _ T2 (mkF m 9 #[.val (.ref o0), .val (.int x1), .val (.int x2), .val (.int x3), .val (.ref o4), .val (.int x5)] [])
  refine own_go (fun _ => XS.aloadN X2.here hx rfl (hb hby d1_9) rfl rfl) ?_
  show own_WP p e below _ T2 (mkF m 10 #[.val (.ref o0), .val (.int x1), .val (.int x2), .val (.int x3), .val (.ref o4), .val (.int x5)] [(.ref o0)])
  refine own_go (fun _ => XS.iloadN X2.here hx rfl (hb hby d1_10) rfl) ?_
  show own_WP p e below _ T2 (mkF m 11 #[.val (.ref o0), .val (.int x1), .val (.int x2), .val (.int x3), .val (.ref o4), .val (.int x5)] [(.int x2), (.ref o0)])
  obtain ⟨T3, h3, X3, e3, W3, st3⟩ := putF X2 hx hZ hown (host := "") (Or.inl (hw _ (List.mem_of_getElem? (i := 18) rfl))) Via.refl e2 F_o0_flags E_o0 (Or.inr ⟨(hw _ (List.mem_of_getElem? (i := 19) rfl)), rfl, hnm⟩) (hw _ (List.mem_of_getElem? (i := 3) rfl)) (ty := .int) (by decide) rfl rfl (g := (mkF m 11 #[.val (.ref o0), .val (.int x1), .val (.int x2), .val (.int x3), .val (.ref o4), .val (.int x5)] [(.int x2), (.ref o0)])) rfl rfl (hb hby d1_11)
  refine own_go st3 ?_
  replace E_o0 := E_o0.wr W3
  replace F_o0_type := F_o0_type.other W3 (Or.inr (slot_ne (Or.inr (hw _ (List.mem_of_getElem? (i := 17) rfl))) (Or.inr (hw _ (List.mem_of_getElem? (i := 19) rfl))) (by decide) (t := .int) (t' := .int) (by decide) (by decide)))
  replace F_o0_flags := F_o0_flags.same W3
  replace F_o0_callId := F_o0_callId.other W3 (Or.inr (slot_ne (Or.inr (hw _ (List.mem_of_getElem? (i := 21) rfl))) (Or.inr (hw _ (List.mem_of_getElem? (i := 19) rfl))) (by decide) (t := .int) (t' := .int) (by decide) (by decide)))
  replace F_o0_body := F_o0_body.other W3 (Or.inr (slot_ne (Or.inr (hw _ (List.mem_of_getElem? (i := 23) rfl))) (Or.inr (hw _ (List.mem_of_getElem? (i := 19) rfl))) (by decide) (t := (.array .byte)) (t' := .int) (by decide) (by decide)))
  replace F_o0_authLength := F_o0_authLength.other W3 (Or.inr (slot_ne (Or.inr (hw _ (List.mem_of_getElem? (i := 25) rfl))) (Or.inr (hw _ (List.mem_of_getElem? (i := 19) rfl))) (by decide) (t := .int) (t' := .int) (by decide) (by decide)))
  replace K := K.wr W3 (Or.inl (List.mem_of_getElem? (i := 0) rfl))
  replace N := Fr.snoc X3 N (by omega)
  show own_WP p e below _ T3 (mkF m 14 #[.val (.ref o0), .val (.int x1), .val (.int x2), .val (.int x3), .val (.ref o4), .val (.int x5)] [])
  refine own_go (fun _ => XS.aloadN X3.here hx rfl (hb hby d1_14) rfl rfl) ?_
  show own_WP p e below _ T3 (mkF m 15 #[.val (.ref o0), .val (.int x1), .val (.int x2), .val (.int x3), .val (.ref o4), .val (.int x5)] [(.ref o0)])
  refine own_go (fun _ => XS.iloadN X3.here hx rfl (hb hby d1_15) rfl) ?_
  show own_WP p e below _ T3 (mkF m 16 #[.val (.ref o0), .val (.int x1), .val (.int x2), .val (.int x3), .val (.ref o4), .val (.int x5)] [(.int x3), (.ref o0)])
  obtain ⟨T4, h4, X4, e4, W4, st4⟩ := putF X3 hx hZ hown (host := "") (Or.inl (hw _ (List.mem_of_getElem? (i := 20) rfl))) Via.refl e3 F_o0_callId E_o0 (Or.inr ⟨(hw _ (List.mem_of_getElem? (i := 21) rfl)), rfl, hnm⟩) (hw _ (List.mem_of_getElem? (i := 3) rfl)) (ty := .int) (by decide) rfl rfl (g := (mkF m 16 #[.val (.ref o0), .val (.int x1), .val (.int x2), .val (.int x3), .val (.ref o4), .val (.int x5)] [(.int x3), (.ref o0)])) rfl rfl (hb hby d1_16)
  refine own_go st4 ?_
  replace E_o0 := E_o0.wr W4
  replace F_o0_type := F_o0_type.other W4 (Or.inr (slot_ne (Or.inr (hw _ (List.mem_of_getElem? (i := 17) rfl))) (Or.inr (hw _ (List.mem_of_getElem? (i := 21) rfl))) (by decide) (t := .int) (t' := .int) (by decide) (by decide)))
  replace F_o0_flags := F_o0_flags.other W4 (Or.inr (slot_ne (Or.inr (hw _ (List.mem_of_getElem? (i := 19) rfl))) (Or.inr (hw _ (List.mem_of_getElem? (i := 21) rfl))) (by decide) (t := .int) (t' := .int) (by decide) (by decide)))
  replace F_o0_callId := F_o0_callId.same W4
  replace F_o0_body := F_o0_body.other W4 (Or.inr (slot_ne (Or.inr (hw _ (List.mem_of_getElem? (i := 23) rfl))) (Or.inr (hw _ (List.mem_of_getElem? (i := 21) rfl))) (by decide) (t := (.array .byte)) (t' := .int) (by decide) (by decide)))
  replace F_o0_authLength := F_o0_authLength.other W4 (Or.inr (slot_ne (Or.inr (hw _ (List.mem_of_getElem? (i := 25) rfl))) (Or.inr (hw _ (List.mem_of_getElem? (i := 21) rfl))) (by decide) (t := .int) (t' := .int) (by decide) (by decide)))
  replace K := K.wr W4 (Or.inl (List.mem_of_getElem? (i := 0) rfl))
  replace N := Fr.snoc X4 N (by omega)
  show own_WP p e below _ T4 (mkF m 19 #[.val (.ref o0), .val (.int x1), .val (.int x2), .val (.int x3), .val (.ref o4), .val (.int x5)] [])
  refine own_go (fun _ => XS.aloadN X4.here hx rfl (hb hby d1_19) rfl rfl) ?_
  show own_WP p e below _ T4 (mkF m 20 #[.val (.ref o0), .val (.int x1), .val (.int x2), .val (.int x3), .val (.ref o4), .val (.int x5)] [(.ref o0)])
  refine own_go (fun _ => XS.aload X4.here hx rfl (hb hby d1_20) rfl rfl) ?_
  show own_WP p e below _ T4 (mkF m 22 #[.val (.ref o0), .val (.int x1), .val (.int x2), .val (.int x3), .val (.ref o4), .val (.int x5)] [(.ref o4), (.ref o0)])
  obtain ⟨T5, h5, X5, e5, W5, st5⟩ := putF X4 hx hZ hown (host := "") (Or.inl (hw _ (List.mem_of_getElem? (i := 22) rfl))) Via.refl e4 F_o0_body E_o0 (Or.inr ⟨(hw _ (List.mem_of_getElem? (i := 23) rfl)), rfl, hnm⟩) (hw _ (List.mem_of_getElem? (i := 3) rfl)) (ty := (.array .byte)) (by decide) rfl rfl (g := (mkF m 22 #[.val (.ref o0), .val (.int x1), .val (.int x2), .val (.int x3), .val (.ref o4), .val (.int x5)] [(.ref o4), (.ref o0)])) rfl rfl (hb hby d1_22)
  refine own_go st5 ?_
  replace E_o0 := E_o0.wr W5
  replace F_o0_type := F_o0_type.other W5 (Or.inr (slot_ne (Or.inr (hw _ (List.mem_of_getElem? (i := 17) rfl))) (Or.inr (hw _ (List.mem_of_getElem? (i := 23) rfl))) (by decide) (t := .int) (t' := (.array .byte)) (by decide) (by decide)))
  replace F_o0_flags := F_o0_flags.other W5 (Or.inr (slot_ne (Or.inr (hw _ (List.mem_of_getElem? (i := 19) rfl))) (Or.inr (hw _ (List.mem_of_getElem? (i := 23) rfl))) (by decide) (t := .int) (t' := (.array .byte)) (by decide) (by decide)))
  replace F_o0_callId := F_o0_callId.other W5 (Or.inr (slot_ne (Or.inr (hw _ (List.mem_of_getElem? (i := 21) rfl))) (Or.inr (hw _ (List.mem_of_getElem? (i := 23) rfl))) (by decide) (t := .int) (t' := (.array .byte)) (by decide) (by decide)))
  replace F_o0_body := F_o0_body.same W5
  replace F_o0_authLength := F_o0_authLength.other W5 (Or.inr (slot_ne (Or.inr (hw _ (List.mem_of_getElem? (i := 25) rfl))) (Or.inr (hw _ (List.mem_of_getElem? (i := 23) rfl))) (by decide) (t := .int) (t' := (.array .byte)) (by decide) (by decide)))
  replace K := K.wr W5 (Or.inl (List.mem_of_getElem? (i := 0) rfl))
  replace N := Fr.snoc X5 N (by omega)
  show own_WP p e below _ T5 (mkF m 25 #[.val (.ref o0), .val (.int x1), .val (.int x2), .val (.int x3), .val (.ref o4), .val (.int x5)] [])
  refine own_go (fun _ => XS.aloadN X5.here hx rfl (hb hby d1_25) rfl rfl) ?_
  show own_WP p e below _ T5 (mkF m 26 #[.val (.ref o0), .val (.int x1), .val (.int x2), .val (.int x3), .val (.ref o4), .val (.int x5)] [(.ref o0)])
  refine own_go (fun _ => XS.iload X5.here hx rfl (hb hby d1_26) rfl) ?_
  show own_WP p e below _ T5 (mkF m 28 #[.val (.ref o0), .val (.int x1), .val (.int x2), .val (.int x3), .val (.ref o4), .val (.int x5)] [(.int x5), (.ref o0)])
  obtain ⟨T6, h6, X6, e6, W6, st6⟩ := putF X5 hx hZ hown (host := "") (Or.inl (hw _ (List.mem_of_getElem? (i := 24) rfl))) Via.refl e5 F_o0_authLength E_o0 (Or.inr ⟨(hw _ (List.mem_of_getElem? (i := 25) rfl)), rfl, hnm⟩) (hw _ (List.mem_of_getElem? (i := 3) rfl)) (ty := .int) (by decide) rfl rfl (g := (mkF m 28 #[.val (.ref o0), .val (.int x1), .val (.int x2), .val (.int x3), .val (.ref o4), .val (.int x5)] [(.int x5), (.ref o0)])) rfl rfl (hb hby d1_28)
  refine own_go st6 ?_
  replace E_o0 := E_o0.wr W6
  replace F_o0_type := F_o0_type.other W6 (Or.inr (slot_ne (Or.inr (hw _ (List.mem_of_getElem? (i := 17) rfl))) (Or.inr (hw _ (List.mem_of_getElem? (i := 25) rfl))) (by decide) (t := .int) (t' := .int) (by decide) (by decide)))
  replace F_o0_flags := F_o0_flags.other W6 (Or.inr (slot_ne (Or.inr (hw _ (List.mem_of_getElem? (i := 19) rfl))) (Or.inr (hw _ (List.mem_of_getElem? (i := 25) rfl))) (by decide) (t := .int) (t' := .int) (by decide) (by decide)))
  replace F_o0_callId := F_o0_callId.other W6 (Or.inr (slot_ne (Or.inr (hw _ (List.mem_of_getElem? (i := 21) rfl))) (Or.inr (hw _ (List.mem_of_getElem? (i := 25) rfl))) (by decide) (t := .int) (t' := .int) (by decide) (by decide)))
  replace F_o0_body := F_o0_body.other W6 (Or.inr (slot_ne (Or.inr (hw _ (List.mem_of_getElem? (i := 23) rfl))) (Or.inr (hw _ (List.mem_of_getElem? (i := 25) rfl))) (by decide) (t := (.array .byte)) (t' := .int) (by decide) (by decide)))
  replace F_o0_authLength := F_o0_authLength.same W6
  replace K := K.wr W6 (Or.inl (List.mem_of_getElem? (i := 0) rfl))
  replace N := Fr.snoc X6 N (by omega)
  show own_WP p e below _ T6 (mkF m 31 #[.val (.ref o0), .val (.int x1), .val (.int x2), .val (.int x3), .val (.ref o4), .val (.int x5)] [])
  obtain rfl := Option.some.inj hv
  exact own_retV X6 C (hb hby d1_31) (by rw [e6]; exact hP _ _ _ N K ⟨rfl, E_o0, F_o0_type, F_o0_flags, F_o0_callId, F_o0_body, F_o0_authLength⟩) (by decide) (by decide)
theorem ef1 (m : MethodId) (o0 : Nat) (x1 : Int32) (x2 : Int32) (x3 : Int32) (o4 : Nat) (x5 : Int32) : entryFrame m #[(.ref o0), (.int x1), (.int x2), (.int x3), (.ref o4), (.int x5)] 6 = (mkF m 0 #[.val (.ref o0), .val (.int x1), .val (.int x2), .val (.int x3), .val (.ref o4), .val (.int x5)] []) := by first | (simp [entryFrame, mkF, argsToLocals, Value.category]; done) | rfl
theorem pd1 : parseMethodDescriptor "(III[BI)V" = some ⟨[.int, .int, .int, (.array .byte), .int], none⟩ := by decide +kernel
theorem pn1 : plainFor (⟨"com/example/objwire/objwire/rpc/Pdu", "<init>", "(III[BI)V"⟩ : MethodName) = true := plainFor_of_name (by first | (simp [plainName, overriddenIn]; done) | decide +kernel)
theorem rm1 (l : Launch) (Z : State) (a0 : Array Value) (hw : ∀ d ∈ tables_1, d.before a0 Z = true) (n0 : Nat) (h0 : Heap) (Z0 : n0 ≤ h0.size) {o0 : Nat} {o4 : Nat} {c_o0_type : Int32} {c_o0_flags : Int32} {c_o0_callId : Int32} {c_o0_authLength : Int32}  (g_o0 : n0 ≤ o0) (E_o0 : Exa Z h0 o0 "com/example/objwire/objwire/rpc/Pdu") (F_o0_type : Fld Z h0 o0 "com/example/objwire/objwire/rpc/Pdu" "type" "I" (.int c_o0_type)) (F_o0_flags : Fld Z h0 o0 "com/example/objwire/objwire/rpc/Pdu" "flags" "I" (.int c_o0_flags)) (F_o0_callId : Fld Z h0 o0 "com/example/objwire/objwire/rpc/Pdu" "callId" "I" (.int c_o0_callId)) (F_o0_body : Fld Z h0 o0 "com/example/objwire/objwire/rpc/Pdu" "body" "[B" .null) (F_o0_authLength : Fld Z h0 o0 "com/example/objwire/objwire/rpc/Pdu" "authLength" "I" (.int c_o0_authLength)) (x1 : Int32) (x2 : Int32) (x3 : Int32) (x5 : Int32)  (rr : Int32 × Int32 × Int32 × Int32) (hf : f1_0 x1 x2 x3 x5 = some rr) :
    own_Met l Z (⟨"com/example/objwire/objwire/rpc/Pdu", "<init>", "(III[BI)V"⟩ : MethodName) prog_106_method_2_code 6 none [] rmR1 #[(.ref o0), (.int x1), (.int x2), (.int x3), (.ref o4), (.int x5)] h0 (fun v h L => Fr n0 L ∧ Keep h0 h [o0] ∧ E1 Z h0 o0 o4 rr v h) := by
  refine own_body pn1 ?_
  intro p e s m below meth c s₁ C X e0
  exact own_cast (ef1 m o0 x1 x2 x3 o4 x5) (b1_0 hw C Z0 rr (fun v h L a b c => ⟨a, b, c⟩) X e0 (Fr.nil n0) (Keep.refl h0 [o0]) g_o0 E_o0 F_o0_type F_o0_flags F_o0_callId F_o0_body F_o0_authLength x1 x2 x3 x5 hf)
theorem d8_0 : decode jdk_29_method_69_code 0 = .ok (.iload_n 0, 1) := by decide +kernel
theorem d8_1 : decode jdk_29_method_69_code 1 = .ok (.iload_n 1, 1) := by decide +kernel
theorem d8_2 : decode jdk_29_method_69_code 2 = .ok (.if_icmp .gt 7, 3) := by decide +kernel
theorem d8_5 : decode jdk_29_method_69_code 5 = .ok (.iload_n 0, 1) := by decide +kernel
theorem d8_6 : decode jdk_29_method_69_code 6 = .ok (.goto 4, 3) := by decide +kernel
theorem d8_9 : decode jdk_29_method_69_code 9 = .ok (.iload_n 1, 1) := by decide +kernel
theorem d8_10 : decode jdk_29_method_69_code 10 = .ok (.ireturn, 1) := by decide +kernel
def rmR8 : Room := { frames := 0, cells := 0, slots := 0, locals := 0 }
def f8_0 (x0 : Int32) (x1 : Int32) : Int32 := (if x1 < x0 then x1 else x0)
set_option maxRecDepth 65536 in
set_option maxHeartbeats 40000000 in
theorem b8_0 {p : Program} {l : Launch} {e : Env} {s : State} {m : MethodId} {args : Array Value} {below : List Frame} {meth : Method} {c : Code} {T : State} {locs : List Loc} {Z : State} {a0 : Array Value} {h0 : Heap} {P : Option Value → Heap → List Loc → Prop} (hw : ∀ d ∈ tables_1, d.before a0 Z = true) (C : own_Ctx p s m meth c Z (⟨"java/lang/Math", "min", "(II)I"⟩ : MethodName) jdk_29_method_69_code 2 (some .int))
    (X : Stand p l e rmR8 s m args below meth c T locs 0 0) (e0 : T.heap = h0) (x0 : Int32) (x1 : Int32) (r : Int32) (hv : f8_0 x0 x1 = r) (hP : P (some (.int r)) h0 locs) :
    own_WP p e below (own_Q s P rmR8.cells rmR8.slots) T (mkF m 0 #[.val (.int x0), .val (.int x1)] []) := by
  obtain ⟨hx, hZ, hby, hml, hown, hnm, hret, hlk⟩ := id C
  unfold f8_0 at hv
  show own_WP p e below _ T (mkF m 0 #[.val (.int x0), .val (.int x1)] [])
  refine own_go (fun _ => XS.iloadN X.here hx rfl (hb hby d8_0) rfl) ?_
  show own_WP p e below _ T (mkF m 1 #[.val (.int x0), .val (.int x1)] [(.int x0)])
  refine own_go (fun _ => XS.iloadN X.here hx rfl (hb hby d8_1) rfl) ?_
  show own_WP p e below _ T (mkF m 2 #[.val (.int x0), .val (.int x1)] [(.int x1), (.int x0)])
  by_cases h2 : x1 < x0
  · replace hv := (if_pos h2).symm.trans hv
    refine own_go (fun _ => XS.icmpYes X.here hx rfl (pc0 := 2) (pc' := 9) rfl (hb hby d8_2) rfl (XT.ii_gt_t h2) (by decide) (by decide)) ?_
    show own_WP p e below _ T (mkF m 9 #[.val (.int x0), .val (.int x1)] [])
    refine own_go (fun _ => XS.iloadN X.here hx rfl (hb hby d8_9) rfl) ?_
    show own_WP p e below _ T (mkF m 10 #[.val (.int x0), .val (.int x1)] [(.int x1)])
    subst hv e0; exact own_retI X C (hb hby d8_10) hP (by decide) (by decide)
  · replace hv := (if_neg h2).symm.trans hv
    refine own_go (fun _ => XS.icmpNo X.here hx rfl (hb hby d8_2) rfl (XT.ii_gt_f h2)) ?_
    show own_WP p e below _ T (mkF m 5 #[.val (.int x0), .val (.int x1)] [])
    refine own_go (fun _ => XS.iloadN X.here hx rfl (hb hby d8_5) rfl) ?_
    show own_WP p e below _ T (mkF m 6 #[.val (.int x0), .val (.int x1)] [(.int x0)])
    refine own_go (fun _ => XS.goto X.here hx rfl (pc0 := 6) (pc' := 10) rfl (hb hby d8_6) (by decide) (by decide)) ?_
    show own_WP p e below _ T (mkF m 10 #[.val (.int x0), .val (.int x1)] [(.int x0)])
    subst hv e0; exact own_retI X C (hb hby d8_10) hP (by decide) (by decide)
theorem ef8 (m : MethodId) (x0 : Int32) (x1 : Int32) : entryFrame m #[(.int x0), (.int x1)] 2 = (mkF m 0 #[.val (.int x0), .val (.int x1)] []) := by first | (simp [entryFrame, mkF, argsToLocals, Value.category]; done) | rfl
theorem pd8 : parseMethodDescriptor "(II)I" = some ⟨[.int, .int], some .int⟩ := by decide +kernel
theorem pn8 : plainFor (⟨"java/lang/Math", "min", "(II)I"⟩ : MethodName) = true := Jvm.Free.JP.mathPlain rfl (by decide +kernel)
theorem rm8 (l : Launch) (Z : State) (a0 : Array Value) (hw : ∀ d ∈ tables_1, d.before a0 Z = true) (x0 : Int32) (x1 : Int32) (h0 : Heap) : own_Met l Z (⟨"java/lang/Math", "min", "(II)I"⟩ : MethodName) jdk_29_method_69_code 2 (some .int) [] rmR8 #[(.int x0), (.int x1)] h0 (fun v h L => v = some (.int (f8_0 x0 x1)) ∧ L = [] ∧ h = h0) := by
  refine own_body pn8 ?_
  intro p e s m below meth c s₁ C X e0
  exact own_cast (ef8 m x0 x1) (b8_0 hw C X e0 x0 x1 _ rfl ⟨rfl, rfl, rfl⟩)
theorem d7_0 : decode jdk_65_method_131_code 0 = .ok (.iload_n 1, 1) := by decide +kernel
theorem d7_1 : decode jdk_65_method_131_code 1 = .ok (.iload_n 0, 1) := by decide +kernel
theorem d7_2 : decode jdk_65_method_131_code 2 = .ok (.if_icmp .ge 35, 3) := by decide +kernel
theorem d7_37 : decode jdk_65_method_131_code 37 = .ok (.return_, 1) := by decide +kernel
def rmR7 : Room := { frames := 0, cells := 0, slots := 0, locals := 0 }
def E7 (Z : State) (h0 : Heap)   (rr : Unit) (v : Option Value) (h : Heap) : Prop := v = none
def f7_0 (x0 : Int32) (x1 : Int32) : Option (Unit) := (if x1 < x0 then none else (some ()))
set_option maxRecDepth 65536 in
set_option maxHeartbeats 40000000 in
theorem b7_0 {p : Program} {l : Launch} {e : Env} {s : State} {m : MethodId} {args : Array Value} {below : List Frame} {meth : Method} {c : Code} {Z : State} {a0 : Array Value} {h0 : Heap} {n0 : Nat} {P : Option Value → Heap → List Loc → Prop} (hw : ∀ d ∈ tables_1, d.before a0 Z = true) (C : own_Ctx p s m meth c Z (⟨"java/util/Arrays", "checkLength", "(II)V"⟩ : MethodName) jdk_65_method_131_code 2 none) (Z0 : n0 ≤ h0.size)   (rr : Unit) (hP : ∀ v h L, Fr n0 L → Keep h0 h [] → E7 Z h0  rr v h → P v h L)
    {T : State} {locs : List Loc} {h : Heap} (X : Stand p l e rmR7 s m args below meth c T locs 0 0) (e0 : T.heap = h) (N : Fr n0 locs) (K : Keep h0 h []) (x0 : Int32) (x1 : Int32) (hv : f7_0 x0 x1 = some rr) :
    own_WP p e below (own_Q s P rmR7.cells rmR7.slots) T (mkF m 0 #[.val (.int x0), .val (.int x1)] []) := by
  obtain ⟨hx, hZ, hby, hml, hown, hnm, hret, hlk⟩ := id C
  replace hown : s.vm.findClass "java/util/Arrays" = some m.cls := hown
  unfold f7_0 at hv
  show own_WP p e below _ T (mkF m 0 #[.val (.int x0), .val (.int x1)] [])
  refine own_go (fun _ => XS.iloadN X.here hx rfl (hb hby d7_0) rfl) ?_
  show own_WP p e below _ T (mkF m 1 #[.val (.int x0), .val (.int x1)] [(.int x1)])
  refine own_go (fun _ => XS.iloadN X.here hx rfl (hb hby d7_1) rfl) ?_
  show own_WP p e below _ T (mkF m 2 #[.val (.int x0), .val (.int x1)] [(.int x0), (.int x1)])
  by_cases h2 : x1 < x0
  · replace hv := (if_pos h2).symm.trans hv
    refine own_go (fun _ => XS.icmpNo X.here hx rfl (hb hby d7_2) rfl (XT.ii_ge_f h2)) ?_
    cases hv
  · replace hv := (if_neg h2).symm.trans hv
    refine own_go (fun _ => XS.icmpYes X.here hx rfl (pc0 := 2) (pc' := 37) rfl (hb hby d7_2) rfl (XT.ii_ge_t h2) (by decide) (by decide)) ?_
    show own_WP p e below _ T (mkF m 37 #[.val (.int x0), .val (.int x1)] [])
    obtain rfl := Option.some.inj hv
    exact own_retV X C (hb hby d7_37) (by rw [e0]; exact hP _ _ _ N K rfl) (by decide) (by decide)
theorem ef7 (m : MethodId) (x0 : Int32) (x1 : Int32) : entryFrame m #[(.int x0), (.int x1)] 2 = (mkF m 0 #[.val (.int x0), .val (.int x1)] []) := by first | (simp [entryFrame, mkF, argsToLocals, Value.category]; done) | rfl
theorem pd7 : parseMethodDescriptor "(II)V" = some ⟨[.int, .int], none⟩ := by decide +kernel
theorem pn7 : plainFor (⟨"java/util/Arrays", "checkLength", "(II)V"⟩ : MethodName) = true := plainFor_of_name (by first | (simp [plainName, overriddenIn]; done) | decide +kernel)
theorem rm7 (l : Launch) (Z : State) (a0 : Array Value) (hw : ∀ d ∈ tables_1, d.before a0 Z = true) (n0 : Nat) (h0 : Heap) (Z0 : n0 ≤ h0.size)      (x0 : Int32) (x1 : Int32)  (rr : Unit) (hf : f7_0 x0 x1 = some rr) :
    own_Met l Z (⟨"java/util/Arrays", "checkLength", "(II)V"⟩ : MethodName) jdk_65_method_131_code 2 none [] rmR7 #[(.int x0), (.int x1)] h0 (fun v h L => Fr n0 L ∧ Keep h0 h [] ∧ E7 Z h0  rr v h) := by
  refine own_body pn7 ?_
  intro p e s m below meth c s₁ C X e0
  exact own_cast (ef7 m x0 x1) (b7_0 hw C Z0 rr (fun v h L a b c => ⟨a, b, c⟩) X e0 (Fr.nil n0) (Keep.refl h0 []) x0 x1 hf)
theorem d6_0 : decode jdk_65_method_133_code 0 = .ok (.iload_n 1, 1) := by decide +kernel
theorem d6_1 : decode jdk_65_method_133_code 1 = .ok (.iload_n 2, 1) := by decide +kernel
theorem d6_2 : decode jdk_65_method_133_code 2 = .ok (.invokestatic 343, 3) := by decide +kernel
theorem d6_5 : decode jdk_65_method_133_code 5 = .ok (.iload_n 2, 1) := by decide +kernel
theorem d6_6 : decode jdk_65_method_133_code 6 = .ok (.iload_n 1, 1) := by decide +kernel
theorem d6_7 : decode jdk_65_method_133_code 7 = .ok (.isub, 1) := by decide +kernel
theorem d6_8 : decode jdk_65_method_133_code 8 = .ok (.istore_n 3, 1) := by decide +kernel
theorem d6_9 : decode jdk_65_method_133_code 9 = .ok (.iload_n 3, 1) := by decide +kernel
theorem d6_10 : decode jdk_65_method_133_code 10 = .ok (.newarray .byte, 2) := by decide +kernel
theorem d6_12 : decode jdk_65_method_133_code 12 = .ok (.astore 4, 2) := by decide +kernel
theorem d6_14 : decode jdk_65_method_133_code 14 = .ok (.aload_n 0, 1) := by decide +kernel
theorem d6_15 : decode jdk_65_method_133_code 15 = .ok (.iload_n 1, 1) := by decide +kernel
theorem d6_16 : decode jdk_65_method_133_code 16 = .ok (.aload 4, 2) := by decide +kernel
theorem d6_18 : decode jdk_65_method_133_code 18 = .ok (.iconst 0, 1) := by decide +kernel
theorem d6_19 : decode jdk_65_method_133_code 19 = .ok (.aload_n 0, 1) := by decide +kernel
theorem d6_20 : decode jdk_65_method_133_code 20 = .ok (.arraylength, 1) := by decide +kernel
theorem d6_21 : decode jdk_65_method_133_code 21 = .ok (.iload_n 1, 1) := by decide +kernel
theorem d6_22 : decode jdk_65_method_133_code 22 = .ok (.isub, 1) := by decide +kernel
theorem d6_23 : decode jdk_65_method_133_code 23 = .ok (.iload_n 3, 1) := by decide +kernel
theorem d6_24 : decode jdk_65_method_133_code 24 = .ok (.invokestatic 304, 3) := by decide +kernel
theorem d6_27 : decode jdk_65_method_133_code 27 = .ok (.invokestatic 150, 3) := by decide +kernel
theorem d6_30 : decode jdk_65_method_133_code 30 = .ok (.aload 4, 2) := by decide +kernel
theorem d6_32 : decode jdk_65_method_133_code 32 = .ok (.areturn, 1) := by decide +kernel
def rmR6 : Room := { frames := 1, cells := 1, slots := 6, locals := 18 }
def E6 (Z : State) (h0 : Heap) (o0 : Nat) (vs : List Int32) (rr : (List Int32)) (v : Option Value) (h : Heap) : Prop := ∃ b10, h0.size ≤ b10 ∧ v = some (.ref b10) ∧ own_AI Z h b10 .byte rr
def f6_0 (vs : List Int32) (x1 : Int32) (x2 : Int32) : Option ((List Int32)) := ((f7_0 x1 x2).bind fun rr1 => (if (x2 - x1) < 0 ∨ 6 < (x2 - x1).toInt then none else ((own_copyL vs x1 (List.replicate ((x2 - x1)).toNatClampNeg 0) (0 : Int32) (f8_0 ((Int32.ofNat vs.length) - x1) (x2 - x1))).bind fun u4 => (some u4))))
set_option maxRecDepth 65536 in
set_option maxHeartbeats 40000000 in
theorem b6_0 {p : Program} {l : Launch} {e : Env} {s : State} {m : MethodId} {args : Array Value} {below : List Frame} {meth : Method} {c : Code} {Z : State} {a0 : Array Value} {h0 : Heap} {n0 : Nat} {P : Option Value → Heap → List Loc → Prop} (hw : ∀ d ∈ tables_1, d.before a0 Z = true) (C : own_Ctx p s m meth c Z (⟨"java/util/Arrays", "copyOfRangeByte", "([BII)[B"⟩ : MethodName) jdk_65_method_133_code 5 (some (.array .byte))) (Z0 : n0 ≤ h0.size) {o0 : Nat} {vs : List Int32} (rr : (List Int32)) (hP : ∀ v h L, Fr n0 L → Keep h0 h [] → E6 Z h0 o0 vs rr v h → P v h L)
    {T : State} {locs : List Loc} {h : Heap} (X : Stand p l e rmR6 s m args below meth c T locs 0 0) (e0 : T.heap = h) (N : Fr n0 locs) (K : Keep h0 h []) (g_o0 : n0 ≤ o0) (V_o0 : own_AI Z h o0 .byte vs) (x1 : Int32) (x2 : Int32) (hv : f6_0 vs x1 x2 = some rr) :
    own_WP p e below (own_Q s P rmR6.cells rmR6.slots) T (mkF m 0 #[.val (.ref o0), .val (.int x1), .val (.int x2), .unset, .unset] []) := by
  obtain ⟨hx, hZ, hby, hml, hown, hnm, hret, hlk⟩ := id C
  replace hown : s.vm.findClass "java/util/Arrays" = some m.cls := hown
  unfold f6_0 at hv
  show own_WP p e below _ T (mkF m 0 #[.val (.ref o0), .val (.int x1), .val (.int x2), .unset, .unset] [])
  refine own_go (fun _ => XS.iloadN X.here hx rfl (hb hby d6_0) rfl) ?_
  show own_WP p e below _ T (mkF m 1 #[.val (.ref o0), .val (.int x1), .val (.int x2), .unset, .unset] [(.int x1)])
  refine own_go (fun _ => XS.iloadN X.here hx rfl (hb hby d6_1) rfl) ?_
  show own_WP p e below _ T (mkF m 2 #[.val (.ref o0), .val (.int x1), .val (.int x2), .unset, .unset] [(.int x2), (.int x1)])
  obtain ⟨rr1, hf1, hv⟩ := own_bind hv
  obtain ⟨T1, v1, L1, X1, ⟨N1, K1, Q1⟩, st1⟩ := own_callS X C (argsL := [(.int x1), (.int x2)]) (rm7 l Z a0 hw n0 h (by have q := K.1; omega) x1 x2 rr1 hf1) (hw _ (List.mem_of_getElem? (i := 38) rfl)) (hw _ (List.mem_of_getElem? (i := 39) rfl)) (hw _ (List.mem_of_getElem? (i := 33) rfl)) (hw _ (List.mem_of_getElem? (i := 40) rfl)) (by decide) e0 (W := 0) (pc := 2) (Ls := #[.val (.ref o0), .val (.int x1), .val (.int x2), .unset, .unset]) rfl (lenOf pd7 rfl) (rest := []) (stk := [(.int x2), (.int x1)]) rfl (Nat.le_of_ble_eq_true rfl) (hb hby d6_2) (by decide) (by decide) (by decide) (by decide)
  replace N := Fr.app N N1
  replace V_o0 := V_o0.keep K1 nin0
  obtain ⟨rfl⟩ := Q1
  replace K := K.trans K1 all0
  refine own_go st1 ?_
  show own_WP p e below _ T1 (mkF m 5 #[.val (.ref o0), .val (.int x1), .val (.int x2), .unset, .unset] [])
  refine own_go (fun _ => XS.iloadN X1.here hx rfl (hb hby d6_5) rfl) ?_
  show own_WP p e below _ T1 (mkF m 6 #[.val (.ref o0), .val (.int x1), .val (.int x2), .unset, .unset] [(.int x2)])
  refine own_go (fun _ => XS.iloadN X1.here hx rfl (hb hby d6_6) rfl) ?_
  show own_WP p e below _ T1 (mkF m 7 #[.val (.ref o0), .val (.int x1), .val (.int x2), .unset, .unset] [(.int x1), (.int x2)])
  refine own_go (fun _ => XS.isub X1.here hx rfl (hb hby d6_7) rfl) ?_
  show own_WP p e below _ T1 (mkF m 8 #[.val (.ref o0), .val (.int x1), .val (.int x2), .unset, .unset] [(.int (x2 - x1))])
  refine own_go (fun _ => XS.istoreN X1.here hx rfl (hb hby d6_8) rfl (l' := #[.val (.ref o0), .val (.int x1), .val (.int x2), .val (.int (x2 - x1)), .unset]) rfl) ?_
  show own_WP p e below _ T1 (mkF m 9 #[.val (.ref o0), .val (.int x1), .val (.int x2), .val (.int (x2 - x1)), .unset] [])
  refine own_go (fun _ => XS.iloadN X1.here hx rfl (hb hby d6_9) rfl) ?_
  show own_WP p e below _ T1 (mkF m 10 #[.val (.ref o0), .val (.int x1), .val (.int x2), .val (.int (x2 - x1)), .unset] [(.int (x2 - x1))])
  by_cases h10 : (x2 - x1) < 0 ∨ 6 < (x2 - x1).toInt
  · cases ((if_pos h10).symm.trans hv)
  replace hv := (if_neg h10).symm.trans hv
  obtain ⟨T2, h2, b10, X2, e2, E2, hb_b10, V_b10, st2⟩ := own_newI X1 C (rfl : T1.heap = T1.heap) (aty := .byte) (ty := .byte) rfl rfl rfl (hw _ (List.mem_of_getElem? (i := 1) rfl)) (n := (x2 - x1)) (fun q => h10 (Or.inl q)) (cap := 6) (own_cap (k := 6) rfl (fun q => h10 (Or.inr q))) (by decide) (by decide) (by decide) (pc := 10) (Ls := #[.val (.ref o0), .val (.int x1), .val (.int x2), .val (.int (x2 - x1)), .unset]) (rest := []) (hb hby d6_10)
  refine own_go st2 ?_
  have o_o0_b10 : o0 < b10 := by have q : o0 < T1.heap.size := V_o0.lt; omega
  have z_b10 : h0.size ≤ b10 := by have q := K.1; omega
  replace V_o0 := V_o0.ext E2
  replace K := K.ext E2
  show own_WP p e below _ T2 (mkF m 12 #[.val (.ref o0), .val (.int x1), .val (.int x2), .val (.int (x2 - x1)), .unset] [(.ref b10)])
  refine own_go (fun _ => XS.astore X2.here hx rfl (hb hby d6_12) rfl rfl (l' := #[.val (.ref o0), .val (.int x1), .val (.int x2), .val (.int (x2 - x1)), .val (.ref b10)]) rfl) ?_
  show own_WP p e below _ T2 (mkF m 14 #[.val (.ref o0), .val (.int x1), .val (.int x2), .val (.int (x2 - x1)), .val (.ref b10)] [])
  refine own_go (fun _ => XS.aloadN X2.here hx rfl (hb hby d6_14) rfl rfl) ?_
  show own_WP p e below _ T2 (mkF m 15 #[.val (.ref o0), .val (.int x1), .val (.int x2), .val (.int (x2 - x1)), .val (.ref b10)] [(.ref o0)])
  refine own_go (fun _ => XS.iloadN X2.here hx rfl (hb hby d6_15) rfl) ?_
  show own_WP p e below _ T2 (mkF m 16 #[.val (.ref o0), .val (.int x1), .val (.int x2), .val (.int (x2 - x1)), .val (.ref b10)] [(.int x1), (.ref o0)])
  refine own_go (fun _ => XS.aload X2.here hx rfl (hb hby d6_16) rfl rfl) ?_
  show own_WP p e below _ T2 (mkF m 18 #[.val (.ref o0), .val (.int x1), .val (.int x2), .val (.int (x2 - x1)), .val (.ref b10)] [(.ref b10), (.int x1), (.ref o0)])
  refine own_go (fun _ => XS.iconst X2.here hx rfl (hb hby d6_18)) ?_
  show own_WP p e below _ T2 (mkF m 19 #[.val (.ref o0), .val (.int x1), .val (.int x2), .val (.int (x2 - x1)), .val (.ref b10)] [(.int (0 : Int32)), (.ref b10), (.int x1), (.ref o0)])
  refine own_go (fun _ => XS.aloadN X2.here hx rfl (hb hby d6_19) rfl rfl) ?_
  show own_WP p e below _ T2 (mkF m 20 #[.val (.ref o0), .val (.int x1), .val (.int x2), .val (.int (x2 - x1)), .val (.ref b10)] [(.ref o0), (.int (0 : Int32)), (.ref b10), (.int x1), (.ref o0)])
  refine own_go (own_lenI X2 C e2 V_o0 (hb hby d6_20)) ?_
  show own_WP p e below _ T2 (mkF m 21 #[.val (.ref o0), .val (.int x1), .val (.int x2), .val (.int (x2 - x1)), .val (.ref b10)] [(.int (Int32.ofNat vs.length)), (.int (0 : Int32)), (.ref b10), (.int x1), (.ref o0)])
  refine own_go (fun _ => XS.iloadN X2.here hx rfl (hb hby d6_21) rfl) ?_
  show own_WP p e below _ T2 (mkF m 22 #[.val (.ref o0), .val (.int x1), .val (.int x2), .val (.int (x2 - x1)), .val (.ref b10)] [(.int x1), (.int (Int32.ofNat vs.length)), (.int (0 : Int32)), (.ref b10), (.int x1), (.ref o0)])
  refine own_go (fun _ => XS.isub X2.here hx rfl (hb hby d6_22) rfl) ?_
  show own_WP p e below _ T2 (mkF m 23 #[.val (.ref o0), .val (.int x1), .val (.int x2), .val (.int (x2 - x1)), .val (.ref b10)] [(.int ((Int32.ofNat vs.length) - x1)), (.int (0 : Int32)), (.ref b10), (.int x1), (.ref o0)])
  refine own_go (fun _ => XS.iloadN X2.here hx rfl (hb hby d6_23) rfl) ?_
  show own_WP p e below _ T2 (mkF m 24 #[.val (.ref o0), .val (.int x1), .val (.int x2), .val (.int (x2 - x1)), .val (.ref b10)] [(.int (x2 - x1)), (.int ((Int32.ofNat vs.length) - x1)), (.int (0 : Int32)), (.ref b10), (.int x1), (.ref o0)])
  obtain ⟨T3, v3, L3, X3, ⟨rfl, rfl, e3⟩, st3⟩ := own_callS X2 C (rm8 l Z a0 hw ((Int32.ofNat vs.length) - x1) (x2 - x1) h2) (hw _ (List.mem_of_getElem? (i := 41) rfl)) (hw _ (List.mem_of_getElem? (i := 42) rfl)) (hw _ (List.mem_of_getElem? (i := 43) rfl)) (hw _ (List.mem_of_getElem? (i := 44) rfl)) (by decide) e2 (W := 4) (pc := 24) (Ls := #[.val (.ref o0), .val (.int x1), .val (.int x2), .val (.int (x2 - x1)), .val (.ref b10)]) rfl (lenOf pd8 rfl) (rest := [(.int (0 : Int32)), (.ref b10), (.int x1), (.ref o0)]) (stk := [(.int (x2 - x1)), (.int ((Int32.ofNat vs.length) - x1)), (.int (0 : Int32)), (.ref b10), (.int x1), (.ref o0)]) rfl (Nat.le_of_ble_eq_true rfl) (hb hby d6_24) (by decide) (by decide) (by decide) (by decide)
  rw [List.append_nil] at X3
  refine own_go st3 ?_
  show own_WP p e below _ T3 (mkF m 27 #[.val (.ref o0), .val (.int x1), .val (.int x2), .val (.int (x2 - x1)), .val (.ref b10)] [(.int (f8_0 ((Int32.ofNat vs.length) - x1) (x2 - x1))), (.int (0 : Int32)), (.ref b10), (.int x1), (.ref o0)])
  obtain ⟨u4, hg4, hv⟩ := own_bind hv
  obtain ⟨T4, h4, L4, X4, e4, N4, K4, V'4, st4⟩ := own_copy X3 C e3 (hw _ (List.mem_of_getElem? (i := 45) rfl)) (hw _ (List.mem_of_getElem? (i := 48) rfl)) (hw _ (List.mem_of_getElem? (i := 46) rfl)) (hw _ (List.mem_of_getElem? (i := 47) rfl)) rfl V_o0 V_b10 hg4 N (by omega) (pc := 27) (Ls := #[.val (.ref o0), .val (.int x1), .val (.int x2), .val (.int (x2 - x1)), .val (.ref b10)]) rfl (rest := []) (hb hby d6_27) (by decide) (W := 0) (Nat.le_of_ble_eq_true rfl) (by decide)
  refine own_go st4 ?_
  replace V_o0 := V_o0.keep K4 (ninS (own_ne (by omega)) nin0)
  replace V_b10 := V'4
  clear V'4
  replace N := N4
  replace K := K.trans K4 (allS (Or.inr (by omega)) all0)
  show own_WP p e below _ T4 (mkF m 30 #[.val (.ref o0), .val (.int x1), .val (.int x2), .val (.int (x2 - x1)), .val (.ref b10)] [])
  refine own_go (fun _ => XS.aload X4.here hx rfl (hb hby d6_30) rfl rfl) ?_
  show own_WP p e below _ T4 (mkF m 32 #[.val (.ref o0), .val (.int x1), .val (.int x2), .val (.int (x2 - x1)), .val (.ref b10)] [(.ref b10)])
  obtain rfl := Option.some.inj hv
  exact own_retA X4 C rfl (hb hby d6_32) (by rw [e4]; exact hP _ _ _ N K ⟨b10, (by omega), rfl, V_b10⟩) (by decide) (by decide)
theorem ef6 (m : MethodId) (o0 : Nat) (x1 : Int32) (x2 : Int32) : entryFrame m #[(.ref o0), (.int x1), (.int x2)] 5 = (mkF m 0 #[.val (.ref o0), .val (.int x1), .val (.int x2), .unset, .unset] []) := by first | (simp [entryFrame, mkF, argsToLocals, Value.category]; done) | rfl
theorem pd6 : parseMethodDescriptor "([BII)[B" = some ⟨[(.array .byte), .int, .int], some (.array .byte)⟩ := by decide +kernel
theorem pn6 : plainFor (⟨"java/util/Arrays", "copyOfRangeByte", "([BII)[B"⟩ : MethodName) = true := plainFor_of_name (by first | (simp [plainName, overriddenIn]; done) | decide +kernel)
theorem rm6 (l : Launch) (Z : State) (a0 : Array Value) (hw : ∀ d ∈ tables_1, d.before a0 Z = true) (n0 : Nat) (h0 : Heap) (Z0 : n0 ≤ h0.size) {o0 : Nat} {vs : List Int32}  (g_o0 : n0 ≤ o0) (V_o0 : own_AI Z h0 o0 .byte vs) (x1 : Int32) (x2 : Int32)  (rr : (List Int32)) (hf : f6_0 vs x1 x2 = some rr) :
    own_Met l Z (⟨"java/util/Arrays", "copyOfRangeByte", "([BII)[B"⟩ : MethodName) jdk_65_method_133_code 5 (some (.array .byte)) [] rmR6 #[(.ref o0), (.int x1), (.int x2)] h0 (fun v h L => Fr n0 L ∧ Keep h0 h [] ∧ E6 Z h0 o0 vs rr v h) := by
  refine own_body pn6 ?_
  intro p e s m below meth c s₁ C X e0
  exact own_cast (ef6 m o0 x1 x2) (b6_0 hw C Z0 rr (fun v h L a b c => ⟨a, b, c⟩) X e0 (Fr.nil n0) (Keep.refl h0 []) g_o0 V_o0 x1 x2 hf)
theorem d5_0 : decode jdk_65_method_132_code 0 = .ok (.iload_n 1, 1) := by decide +kernel
theorem d5_1 : decode jdk_65_method_132_code 1 = .ok (.ifCond .ne 9, 3) := by decide +kernel
theorem d5_4 : decode jdk_65_method_132_code 4 = .ok (.iload_n 2, 1) := by decide +kernel
theorem d5_5 : decode jdk_65_method_132_code 5 = .ok (.aload_n 0, 1) := by decide +kernel
theorem d5_6 : decode jdk_65_method_132_code 6 = .ok (.arraylength, 1) := by decide +kernel
theorem d5_7 : decode jdk_65_method_132_code 7 = .ok (.if_icmp .eq 10, 3) := by decide +kernel
theorem d5_10 : decode jdk_65_method_132_code 10 = .ok (.aload_n 0, 1) := by decide +kernel
theorem d5_11 : decode jdk_65_method_132_code 11 = .ok (.iload_n 1, 1) := by decide +kernel
theorem d5_12 : decode jdk_65_method_132_code 12 = .ok (.iload_n 2, 1) := by decide +kernel
theorem d5_13 : decode jdk_65_method_132_code 13 = .ok (.invokestatic 339, 3) := by decide +kernel
theorem d5_16 : decode jdk_65_method_132_code 16 = .ok (.areturn, 1) := by decide +kernel
theorem d5_17 : decode jdk_65_method_132_code 17 = .ok (.aload_n 0, 1) := by decide +kernel
theorem d5_18 : decode jdk_65_method_132_code 18 = .ok (.invokevirtual 310, 3) := by decide +kernel
theorem d5_21 : decode jdk_65_method_132_code 21 = .ok (.checkcast 311, 3) := by decide +kernel
theorem d5_24 : decode jdk_65_method_132_code 24 = .ok (.areturn, 1) := by decide +kernel
def rmR5 : Room := { frames := 2, cells := 1, slots := 6, locals := 34 }
def E5 (Z : State) (h0 : Heap) (o0 : Nat) (vs : List Int32) (rr : (List Int32)) (v : Option Value) (h : Heap) : Prop := ∃ res, h0.size ≤ res ∧ v = some (.ref res) ∧ own_AI Z h res .byte rr
def f5_10 (vs : List Int32) (x1 : Int32) (x2 : Int32) : Option ((List Int32)) := ((f6_0 vs x1 x2).bind fun rr3 => (some rr3))
set_option maxRecDepth 65536 in
set_option maxHeartbeats 40000000 in
theorem b5_10 {p : Program} {l : Launch} {e : Env} {s : State} {m : MethodId} {args : Array Value} {below : List Frame} {meth : Method} {c : Code} {Z : State} {a0 : Array Value} {h0 : Heap} {n0 : Nat} {P : Option Value → Heap → List Loc → Prop} (hw : ∀ d ∈ tables_1, d.before a0 Z = true) (C : own_Ctx p s m meth c Z (⟨"java/util/Arrays", "copyOfRange", "([BII)[B"⟩ : MethodName) jdk_65_method_132_code 3 (some (.array .byte))) (Z0 : n0 ≤ h0.size) {o0 : Nat} {vs : List Int32} (rr : (List Int32)) (hP : ∀ v h L, Fr n0 L → Keep h0 h [] → E5 Z h0 o0 vs rr v h → P v h L)
    {T : State} {locs : List Loc} {h : Heap} (X : Stand p l e rmR5 s m args below meth c T locs 0 0) (e0 : T.heap = h) (N : Fr n0 locs) (K : Keep h0 h []) (g_o0 : n0 ≤ o0) (V_o0 : own_AI Z h o0 .byte vs) (x1 : Int32) (x2 : Int32) (hv : f5_10 vs x1 x2 = some rr) :
    own_WP p e below (own_Q s P rmR5.cells rmR5.slots) T (mkF m 10 #[.val (.ref o0), .val (.int x1), .val (.int x2)] []) := by
  obtain ⟨hx, hZ, hby, hml, hown, hnm, hret, hlk⟩ := id C
  replace hown : s.vm.findClass "java/util/Arrays" = some m.cls := hown
  unfold f5_10 at hv
  show own_WP p e below _ T (mkF m 10 #[.val (.ref o0), .val (.int x1), .val (.int x2)] [])
  refine own_go (fun _ => XS.aloadN X.here hx rfl (hb hby d5_10) rfl rfl) ?_
  show own_WP p e below _ T (mkF m 11 #[.val (.ref o0), .val (.int x1), .val (.int x2)] [(.ref o0)])
  refine own_go (fun _ => XS.iloadN X.here hx rfl (hb hby d5_11) rfl) ?_
  show own_WP p e below _ T (mkF m 12 #[.val (.ref o0), .val (.int x1), .val (.int x2)] [(.int x1), (.ref o0)])
  refine own_go (fun _ => XS.iloadN X.here hx rfl (hb hby d5_12) rfl) ?_
  show own_WP p e below _ T (mkF m 13 #[.val (.ref o0), .val (.int x1), .val (.int x2)] [(.int x2), (.int x1), (.ref o0)])
  obtain ⟨rr3, hf3, hv⟩ := own_bind hv
  obtain ⟨T3, v3, L3, X3, ⟨N3, K3, Q3⟩, st3⟩ := own_callS X C (argsL := [(.ref o0), (.int x1), (.int x2)]) (rm6 l Z a0 hw n0 h (by have q := K.1; omega) (by omega) V_o0 x1 x2 rr3 hf3) (hw _ (List.mem_of_getElem? (i := 35) rfl)) (hw _ (List.mem_of_getElem? (i := 36) rfl)) (hw _ (List.mem_of_getElem? (i := 33) rfl)) (hw _ (List.mem_of_getElem? (i := 37) rfl)) (by decide) e0 (W := 0) (pc := 13) (Ls := #[.val (.ref o0), .val (.int x1), .val (.int x2)]) rfl (lenOf pd6 rfl) (rest := []) (stk := [(.int x2), (.int x1), (.ref o0)]) rfl (Nat.le_of_ble_eq_true rfl) (hb hby d5_13) (by decide) (by decide) (by decide) (by decide)
  replace N := Fr.app N N3
  have lt3 : o0 < h.size := V_o0.lt
  replace V_o0 := V_o0.keep K3 nin0
  obtain ⟨b13, zz3, rfl, V_b13⟩ := Q3
  have o_o0_b13 : o0 < b13 := by omega
  have z_b13 : h0.size ≤ b13 := by have q := K.1; omega
  replace K := K.trans K3 all0
  refine own_go st3 ?_
  show own_WP p e below _ T3 (mkF m 16 #[.val (.ref o0), .val (.int x1), .val (.int x2)] [(.ref b13)])
  obtain rfl := Option.some.inj hv
  exact own_retA X3 C rfl (hb hby d5_16) (hP _ _ _ N K ⟨b13, (by omega), rfl, V_b13⟩) (by decide) (by decide)
def f5_0 (vs : List Int32) (x1 : Int32) (x2 : Int32) : Option ((List Int32)) := (if x1 = (0 : Int32) then (if x2 = (Int32.ofNat vs.length) then (if 6 < vs.length then none else (some vs)) else (f5_10 vs x1 x2)) else (f5_10 vs x1 x2))
set_option maxRecDepth 65536 in
set_option maxHeartbeats 40000000 in
theorem b5_0 {p : Program} {l : Launch} {e : Env} {s : State} {m : MethodId} {args : Array Value} {below : List Frame} {meth : Method} {c : Code} {Z : State} {a0 : Array Value} {h0 : Heap} {n0 : Nat} {P : Option Value → Heap → List Loc → Prop} (hw : ∀ d ∈ tables_1, d.before a0 Z = true) (C : own_Ctx p s m meth c Z (⟨"java/util/Arrays", "copyOfRange", "([BII)[B"⟩ : MethodName) jdk_65_method_132_code 3 (some (.array .byte))) (Z0 : n0 ≤ h0.size) {o0 : Nat} {vs : List Int32} (rr : (List Int32)) (hP : ∀ v h L, Fr n0 L → Keep h0 h [] → E5 Z h0 o0 vs rr v h → P v h L)
    {T : State} {locs : List Loc} {h : Heap} (X : Stand p l e rmR5 s m args below meth c T locs 0 0) (e0 : T.heap = h) (N : Fr n0 locs) (K : Keep h0 h []) (g_o0 : n0 ≤ o0) (V_o0 : own_AI Z h o0 .byte vs) (x1 : Int32) (x2 : Int32) (hv : f5_0 vs x1 x2 = some rr) :
    own_WP p e below (own_Q s P rmR5.cells rmR5.slots) T (mkF m 0 #[.val (.ref o0), .val (.int x1), .val (.int x2)] []) := by
  obtain ⟨hx, hZ, hby, hml, hown, hnm, hret, hlk⟩ := id C
  replace hown : s.vm.findClass "java/util/Arrays" = some m.cls := hown
  unfold f5_0 at hv
  show own_WP p e below _ T (mkF m 0 #[.val (.ref o0), .val (.int x1), .val (.int x2)] [])
  refine own_go (fun _ => XS.iloadN X.here hx rfl (hb hby d5_0) rfl) ?_
  show own_WP p e below _ T (mkF m 1 #[.val (.ref o0), .val (.int x1), .val (.int x2)] [(.int x1)])
  by_cases h1 : x1 = (0 : Int32)
  · replace hv := (if_pos h1).symm.trans hv
    refine own_go (fun _ => XS.ifNo X.here hx rfl (hb hby d5_1) rfl (XT.i0_ne_f h1)) ?_
    show own_WP p e below _ T (mkF m 4 #[.val (.ref o0), .val (.int x1), .val (.int x2)] [])
    refine own_go (fun _ => XS.iloadN X.here hx rfl (hb hby d5_4) rfl) ?_
    show own_WP p e below _ T (mkF m 5 #[.val (.ref o0), .val (.int x1), .val (.int x2)] [(.int x2)])
    refine own_go (fun _ => XS.aloadN X.here hx rfl (hb hby d5_5) rfl rfl) ?_
    show own_WP p e below _ T (mkF m 6 #[.val (.ref o0), .val (.int x1), .val (.int x2)] [(.ref o0), (.int x2)])
    refine own_go (own_lenI X C e0 V_o0 (hb hby d5_6)) ?_
    show own_WP p e below _ T (mkF m 7 #[.val (.ref o0), .val (.int x1), .val (.int x2)] [(.int (Int32.ofNat vs.length)), (.int x2)])
    by_cases h7 : x2 = (Int32.ofNat vs.length)
    · replace hv := (if_pos h7).symm.trans hv
      refine own_go (fun _ => XS.icmpYes X.here hx rfl (pc0 := 7) (pc' := 17) rfl (hb hby d5_7) rfl (XT.ii_eq_t h7) (by decide) (by decide)) ?_
      show own_WP p e below _ T (mkF m 17 #[.val (.ref o0), .val (.int x1), .val (.int x2)] [])
      refine own_go (fun _ => XS.aloadN X.here hx rfl (hb hby d5_17) rfl rfl) ?_
      show own_WP p e below _ T (mkF m 18 #[.val (.ref o0), .val (.int x1), .val (.int x2)] [(.ref o0)])
      by_cases h18 : 6 < vs.length
      · cases ((if_pos h18).symm.trans hv)
      replace hv := (if_neg h18).symm.trans hv
      obtain ⟨T1, h1, b18, X1, e1, E1, hb_b18, V_b18, st1⟩ := own_clone X C e0 (ad := "[B") rfl (hw _ (List.mem_of_getElem? (i := 53) rfl)) (hw _ (List.mem_of_getElem? (i := 54) rfl)) (hw _ (List.mem_of_getElem? (i := 58) rfl)) (hw _ (List.mem_of_getElem? (i := 56) rfl)) (hw _ (List.mem_of_getElem? (i := 57) rfl)) (hw _ (List.mem_of_getElem? (i := 59) rfl)) V_o0 (pc := 18) (Ls := #[.val (.ref o0), .val (.int x1), .val (.int x2)]) rfl (rest := []) (hb hby d5_18) (by decide) (W := 0) (cap := 6) (Nat.le_of_ble_eq_true rfl) (by decide) (Nat.le_of_not_lt h18) (by decide) (by decide)
      refine own_go st1 ?_
      have o_o0_b18 : o0 < b18 := by have q : o0 < h.size := V_o0.lt; omega
      have z_b18 : h0.size ≤ b18 := by have q := K.1; omega
      replace V_o0 := V_o0.ext E1
      replace K := K.ext E1
      show own_WP p e below _ T1 (mkF m 21 #[.val (.ref o0), .val (.int x1), .val (.int x2)] [(.ref b18)])
      obtain ⟨T2, X2, e2, st2⟩ := own_castA X1 C e1 (ad := "[B") rfl (hw _ (List.mem_of_getElem? (i := 60) rfl)) V_b18 (pc := 21) (Ls := #[.val (.ref o0), .val (.int x1), .val (.int x2)]) (rest := []) (hb hby d5_21)
      refine own_go st2 ?_
      show own_WP p e below _ T2 (mkF m 24 #[.val (.ref o0), .val (.int x1), .val (.int x2)] [(.ref b18)])
      obtain rfl := Option.some.inj hv
      exact own_retA X2 C rfl (hb hby d5_24) (by rw [e2]; exact hP _ _ _ N K ⟨b18, (by omega), rfl, V_b18⟩) (by decide) (by decide)
    · replace hv := (if_neg h7).symm.trans hv
      refine own_go (fun _ => XS.icmpNo X.here hx rfl (hb hby d5_7) rfl (XT.ii_eq_f h7)) ?_
      exact b5_10 hw C Z0 rr hP X e0 N K g_o0 V_o0 x1 x2 hv
  · replace hv := (if_neg h1).symm.trans hv
    refine own_go (fun _ => XS.ifYes X.here hx rfl (pc0 := 1) (pc' := 10) rfl (hb hby d5_1) rfl (XT.i0_ne_t h1) (by decide) (by decide)) ?_
    exact b5_10 hw C Z0 rr hP X e0 N K g_o0 V_o0 x1 x2 hv
theorem ef5 (m : MethodId) (o0 : Nat) (x1 : Int32) (x2 : Int32) : entryFrame m #[(.ref o0), (.int x1), (.int x2)] 3 = (mkF m 0 #[.val (.ref o0), .val (.int x1), .val (.int x2)] []) := by first | (simp [entryFrame, mkF, argsToLocals, Value.category]; done) | rfl
theorem pd5 : parseMethodDescriptor "([BII)[B" = some ⟨[(.array .byte), .int, .int], some (.array .byte)⟩ := by decide +kernel
theorem pn5 : plainFor (⟨"java/util/Arrays", "copyOfRange", "([BII)[B"⟩ : MethodName) = true := plainFor_of_name (by first | (simp [plainName, overriddenIn]; done) | decide +kernel)
theorem rm5 (l : Launch) (Z : State) (a0 : Array Value) (hw : ∀ d ∈ tables_1, d.before a0 Z = true) (n0 : Nat) (h0 : Heap) (Z0 : n0 ≤ h0.size) {o0 : Nat} {vs : List Int32}  (g_o0 : n0 ≤ o0) (V_o0 : own_AI Z h0 o0 .byte vs) (x1 : Int32) (x2 : Int32)  (rr : (List Int32)) (hf : f5_0 vs x1 x2 = some rr) :
    own_Met l Z (⟨"java/util/Arrays", "copyOfRange", "([BII)[B"⟩ : MethodName) jdk_65_method_132_code 3 (some (.array .byte)) [] rmR5 #[(.ref o0), (.int x1), (.int x2)] h0 (fun v h L => Fr n0 L ∧ Keep h0 h [] ∧ E5 Z h0 o0 vs rr v h) := by
  refine own_body pn5 ?_
  intro p e s m below meth c s₁ C X e0
  exact own_cast (ef5 m o0 x1 x2) (b5_0 hw C Z0 rr (fun v h L a b c => ⟨a, b, c⟩) X e0 (Fr.nil n0) (Keep.refl h0 []) g_o0 V_o0 x1 x2 hf)
theorem d4_0 : decode prog_106_method_8_code 0 = .ok (.aload_n 0, 1) := by decide +kernel
theorem d4_1 : decode prog_106_method_8_code 1 = .ok (.getfield 19, 3) := by decide +kernel
theorem d4_4 : decode prog_106_method_8_code 4 = .ok (.aload_n 0, 1) := by decide +kernel
theorem d4_5 : decode prog_106_method_8_code 5 = .ok (.getfield 19, 3) := by decide +kernel
theorem d4_8 : decode prog_106_method_8_code 8 = .ok (.arraylength, 1) := by decide +kernel
theorem d4_9 : decode prog_106_method_8_code 9 = .ok (.aload_n 0, 1) := by decide +kernel
theorem d4_10 : decode prog_106_method_8_code 10 = .ok (.getfield 23, 3) := by decide +kernel
theorem d4_13 : decode prog_106_method_8_code 13 = .ok (.isub, 1) := by decide +kernel
theorem d4_14 : decode prog_106_method_8_code 14 = .ok (.aload_n 0, 1) := by decide +kernel
theorem d4_15 : decode prog_106_method_8_code 15 = .ok (.getfield 19, 3) := by decide +kernel
theorem d4_18 : decode prog_106_method_8_code 18 = .ok (.arraylength, 1) := by decide +kernel
theorem d4_19 : decode prog_106_method_8_code 19 = .ok (.invokestatic 149, 3) := by decide +kernel
theorem d4_22 : decode prog_106_method_8_code 22 = .ok (.areturn, 1) := by decide +kernel
def rmR4 : Room := { frames := 3, cells := 1, slots := 6, locals := 48 }
def E4 (Z : State) (h0 : Heap) (bd : Nat) (o0 : Nat) (vs : List Int32) (s_type : Int32) (s_flags : Int32) (s_callId : Int32) (s_authLength : Int32) (rr : (List Int32)) (v : Option Value) (h : Heap) : Prop := ∃ res, h0.size ≤ res ∧ v = some (.ref res) ∧ own_AI Z h res .byte rr
def f4_0 (vs : List Int32) (s_authLength : Int32) : Option ((List Int32)) := ((f5_0 vs ((Int32.ofNat vs.length) - s_authLength) (Int32.ofNat vs.length)).bind fun rr5 => (some rr5))
set_option maxRecDepth 65536 in
set_option maxHeartbeats 40000000 in
theorem b4_0 {p : Program} {l : Launch} {e : Env} {s : State} {m : MethodId} {args : Array Value} {below : List Frame} {meth : Method} {c : Code} {Z : State} {a0 : Array Value} {h0 : Heap} {n0 : Nat} {P : Option Value → Heap → List Loc → Prop} (hw : ∀ d ∈ tables_1, d.before a0 Z = true) (C : own_Ctx p s m meth c Z (⟨"com/example/objwire/objwire/rpc/Pdu", "token", "()[B"⟩ : MethodName) prog_106_method_8_code 1 (some (.array .byte))) (Z0 : n0 ≤ h0.size) {bd : Nat} {o0 : Nat} {vs : List Int32} {s_type : Int32} {s_flags : Int32} {s_callId : Int32} {s_authLength : Int32} (rr : (List Int32)) (hP : ∀ v h L, Fr n0 L → Keep h0 h [] → E4 Z h0 bd o0 vs s_type s_flags s_callId s_authLength rr v h → P v h L)
    {T : State} {locs : List Loc} {h : Heap} (X : Stand p l e rmR4 s m args below meth c T locs 0 0) (e0 : T.heap = h) (N : Fr n0 locs) (K : Keep h0 h []) (o_bd_o0 : bd < o0) (g_bd : n0 ≤ bd) (V_bd : own_AI Z h bd .byte vs) (E_o0 : Exa Z h o0 "com/example/objwire/objwire/rpc/Pdu") (F_o0_type : Fld Z h o0 "com/example/objwire/objwire/rpc/Pdu" "type" "I" (.int s_type)) (F_o0_flags : Fld Z h o0 "com/example/objwire/objwire/rpc/Pdu" "flags" "I" (.int s_flags)) (F_o0_callId : Fld Z h o0 "com/example/objwire/objwire/rpc/Pdu" "callId" "I" (.int s_callId)) (F_o0_body : Fld Z h o0 "com/example/objwire/objwire/rpc/Pdu" "body" "[B" (.ref bd)) (F_o0_authLength : Fld Z h o0 "com/example/objwire/objwire/rpc/Pdu" "authLength" "I" (.int s_authLength)) (hv : f4_0 vs s_authLength = some rr) :
    own_WP p e below (own_Q s P rmR4.cells rmR4.slots) T (mkF m 0 #[.val (.ref o0)] []) := by
  obtain ⟨hx, hZ, hby, hml, hown, hnm, hret, hlk⟩ := id C
  replace hown : s.vm.findClass "com/example/objwire/objwire/rpc/Pdu" = some m.cls := hown
  unfold f4_0 at hv
  show own_WP p e below _ T (mkF m 0 #[.val (.ref o0)] [])
  refine own_go (fun _ => XS.aloadN X.here hx rfl (hb hby d4_0) rfl rfl) ?_
  show own_WP p e below _ T (mkF m 1 #[.val (.ref o0)] [(.ref o0)])
  obtain ⟨T1, X1, e1, st1⟩ := getF X hx hZ hown (host := "") (Or.inl (hw _ (List.mem_of_getElem? (i := 22) rfl))) Via.refl e0 F_o0_body (g := (mkF m 1 #[.val (.ref o0)] [(.ref o0)])) rfl rfl (hb hby d4_1)
  refine own_go st1 ?_
  show own_WP p e below _ T1 (mkF m 4 #[.val (.ref o0)] [(.ref bd)])
  refine own_go (fun _ => XS.aloadN X1.here hx rfl (hb hby d4_4) rfl rfl) ?_
  show own_WP p e below _ T1 (mkF m 5 #[.val (.ref o0)] [(.ref o0), (.ref bd)])
  obtain ⟨T2, X2, e2, st2⟩ := getF X1 hx hZ hown (host := "") (Or.inl (hw _ (List.mem_of_getElem? (i := 22) rfl))) Via.refl e1 F_o0_body (g := (mkF m 5 #[.val (.ref o0)] [(.ref o0), (.ref bd)])) rfl rfl (hb hby d4_5)
  refine own_go st2 ?_
  show own_WP p e below _ T2 (mkF m 8 #[.val (.ref o0)] [(.ref bd), (.ref bd)])
  refine own_go (own_lenI X2 C e2 V_bd (hb hby d4_8)) ?_
  show own_WP p e below _ T2 (mkF m 9 #[.val (.ref o0)] [(.int (Int32.ofNat vs.length)), (.ref bd)])
  refine own_go (fun _ => XS.aloadN X2.here hx rfl (hb hby d4_9) rfl rfl) ?_
  show own_WP p e below _ T2 (mkF m 10 #[.val (.ref o0)] [(.ref o0), (.int (Int32.ofNat vs.length)), (.ref bd)])
  obtain ⟨T3, X3, e3, st3⟩ := getF X2 hx hZ hown (host := "") (Or.inl (hw _ (List.mem_of_getElem? (i := 24) rfl))) Via.refl e2 F_o0_authLength (g := (mkF m 10 #[.val (.ref o0)] [(.ref o0), (.int (Int32.ofNat vs.length)), (.ref bd)])) rfl rfl (hb hby d4_10)
  refine own_go st3 ?_
  show own_WP p e below _ T3 (mkF m 13 #[.val (.ref o0)] [(.int s_authLength), (.int (Int32.ofNat vs.length)), (.ref bd)])
  refine own_go (fun _ => XS.isub X3.here hx rfl (hb hby d4_13) rfl) ?_
  show own_WP p e below _ T3 (mkF m 14 #[.val (.ref o0)] [(.int ((Int32.ofNat vs.length) - s_authLength)), (.ref bd)])
  refine own_go (fun _ => XS.aloadN X3.here hx rfl (hb hby d4_14) rfl rfl) ?_
  show own_WP p e below _ T3 (mkF m 15 #[.val (.ref o0)] [(.ref o0), (.int ((Int32.ofNat vs.length) - s_authLength)), (.ref bd)])
  obtain ⟨T4, X4, e4, st4⟩ := getF X3 hx hZ hown (host := "") (Or.inl (hw _ (List.mem_of_getElem? (i := 22) rfl))) Via.refl e3 F_o0_body (g := (mkF m 15 #[.val (.ref o0)] [(.ref o0), (.int ((Int32.ofNat vs.length) - s_authLength)), (.ref bd)])) rfl rfl (hb hby d4_15)
  refine own_go st4 ?_
  show own_WP p e below _ T4 (mkF m 18 #[.val (.ref o0)] [(.ref bd), (.int ((Int32.ofNat vs.length) - s_authLength)), (.ref bd)])
  refine own_go (own_lenI X4 C e4 V_bd (hb hby d4_18)) ?_
  show own_WP p e below _ T4 (mkF m 19 #[.val (.ref o0)] [(.int (Int32.ofNat vs.length)), (.int ((Int32.ofNat vs.length) - s_authLength)), (.ref bd)])
  obtain ⟨rr5, hf5, hv⟩ := own_bind hv
  obtain ⟨T5, v5, L5, X5, ⟨N5, K5, Q5⟩, st5⟩ := own_callS X4 C (argsL := [(.ref bd), (.int ((Int32.ofNat vs.length) - s_authLength)), (.int (Int32.ofNat vs.length))]) (rm5 l Z a0 hw n0 h (by have q := K.1; omega) (by omega) V_bd ((Int32.ofNat vs.length) - s_authLength) (Int32.ofNat vs.length) rr5 hf5) (hw _ (List.mem_of_getElem? (i := 31) rfl)) (hw _ (List.mem_of_getElem? (i := 32) rfl)) (hw _ (List.mem_of_getElem? (i := 33) rfl)) (hw _ (List.mem_of_getElem? (i := 34) rfl)) (by decide) e4 (W := 0) (pc := 19) (Ls := #[.val (.ref o0)]) rfl (lenOf pd5 rfl) (rest := []) (stk := [(.int (Int32.ofNat vs.length)), (.int ((Int32.ofNat vs.length) - s_authLength)), (.ref bd)]) rfl (Nat.le_of_ble_eq_true rfl) (hb hby d4_19) (by decide) (by decide) (by decide) (by decide)
  replace N := Fr.app N N5
  have lt5 : o0 < h.size := E_o0.lt
  replace V_bd := V_bd.keep K5 nin0
  replace E_o0 := E_o0.keep K5
  replace F_o0_type := F_o0_type.keep K5 nin0
  replace F_o0_flags := F_o0_flags.keep K5 nin0
  replace F_o0_callId := F_o0_callId.keep K5 nin0
  replace F_o0_body := F_o0_body.keep K5 nin0
  replace F_o0_authLength := F_o0_authLength.keep K5 nin0
  obtain ⟨b19, zz5, rfl, V_b19⟩ := Q5
  have o_o0_b19 : o0 < b19 := by omega
  have z_b19 : h0.size ≤ b19 := by have q := K.1; omega
  replace K := K.trans K5 all0
  refine own_go st5 ?_
  show own_WP p e below _ T5 (mkF m 22 #[.val (.ref o0)] [(.ref b19)])
  obtain rfl := Option.some.inj hv
  exact own_retA X5 C rfl (hb hby d4_22) (hP _ _ _ N K ⟨b19, (by omega), rfl, V_b19⟩) (by decide) (by decide)
theorem ef4 (m : MethodId) (o0 : Nat) : entryFrame m #[(.ref o0)] 1 = (mkF m 0 #[.val (.ref o0)] []) := by first | (simp [entryFrame, mkF, argsToLocals, Value.category]; done) | rfl
theorem pd4 : parseMethodDescriptor "()[B" = some ⟨[], some (.array .byte)⟩ := by decide +kernel
theorem pn4 : plainFor (⟨"com/example/objwire/objwire/rpc/Pdu", "token", "()[B"⟩ : MethodName) = true := plainFor_of_name (by first | (simp [plainName, overriddenIn]; done) | decide +kernel)
theorem rm4 (l : Launch) (Z : State) (a0 : Array Value) (hw : ∀ d ∈ tables_1, d.before a0 Z = true) (n0 : Nat) (h0 : Heap) (Z0 : n0 ≤ h0.size) {bd : Nat} {o0 : Nat} {vs : List Int32} {s_type : Int32} {s_flags : Int32} {s_callId : Int32} {s_authLength : Int32} (o_bd_o0 : bd < o0) (g_bd : n0 ≤ bd) (V_bd : own_AI Z h0 bd .byte vs) (E_o0 : Exa Z h0 o0 "com/example/objwire/objwire/rpc/Pdu") (F_o0_type : Fld Z h0 o0 "com/example/objwire/objwire/rpc/Pdu" "type" "I" (.int s_type)) (F_o0_flags : Fld Z h0 o0 "com/example/objwire/objwire/rpc/Pdu" "flags" "I" (.int s_flags)) (F_o0_callId : Fld Z h0 o0 "com/example/objwire/objwire/rpc/Pdu" "callId" "I" (.int s_callId)) (F_o0_body : Fld Z h0 o0 "com/example/objwire/objwire/rpc/Pdu" "body" "[B" (.ref bd)) (F_o0_authLength : Fld Z h0 o0 "com/example/objwire/objwire/rpc/Pdu" "authLength" "I" (.int s_authLength))   (rr : (List Int32)) (hf : f4_0 vs s_authLength = some rr) :
    own_Met l Z (⟨"com/example/objwire/objwire/rpc/Pdu", "token", "()[B"⟩ : MethodName) prog_106_method_8_code 1 (some (.array .byte)) [] rmR4 #[(.ref o0)] h0 (fun v h L => Fr n0 L ∧ Keep h0 h [] ∧ E4 Z h0 bd o0 vs s_type s_flags s_callId s_authLength rr v h) := by
  refine own_body pn4 ?_
  intro p e s m below meth c s₁ C X e0
  exact own_cast (ef4 m o0) (b4_0 hw C Z0 rr (fun v h L a b c => ⟨a, b, c⟩) X e0 (Fr.nil n0) (Keep.refl h0 []) o_bd_o0 g_bd V_bd E_o0 F_o0_type F_o0_flags F_o0_callId F_o0_body F_o0_authLength hf)
theorem d9_0 : decode method_3_code 0 = .ok (.iload_n 2, 1) := by decide +kernel
theorem d9_1 : decode method_3_code 1 = .ok (.iload_n 1, 1) := by decide +kernel
theorem d9_2 : decode method_3_code 2 = .ok (.if_icmp .lt 5, 3) := by decide +kernel
theorem d9_5 : decode method_3_code 5 = .ok (.iconst 1, 1) := by decide +kernel
theorem d9_6 : decode method_3_code 6 = .ok (.ireturn, 1) := by decide +kernel
theorem d9_7 : decode method_3_code 7 = .ok (.bipush 6, 2) := by decide +kernel
theorem d9_9 : decode method_3_code 9 = .ok (.iload_n 1, 1) := by decide +kernel
theorem d9_10 : decode method_3_code 10 = .ok (.isub, 1) := by decide +kernel
theorem d9_11 : decode method_3_code 11 = .ok (.iload_n 2, 1) := by decide +kernel
theorem d9_12 : decode method_3_code 12 = .ok (.iadd, 1) := by decide +kernel
theorem d9_13 : decode method_3_code 13 = .ok (.istore 5, 2) := by decide +kernel
theorem d9_15 : decode method_3_code 15 = .ok (.aload_n 0, 1) := by decide +kernel
theorem d9_16 : decode method_3_code 16 = .ok (.iload_n 2, 1) := by decide +kernel
theorem d9_17 : decode method_3_code 17 = .ok (.baload, 1) := by decide +kernel
theorem d9_18 : decode method_3_code 18 = .ok (.lload_n 3, 1) := by decide +kernel
theorem d9_19 : decode method_3_code 19 = .ok (.bipush 8, 2) := by decide +kernel
theorem d9_21 : decode method_3_code 21 = .ok (.iload 5, 2) := by decide +kernel
theorem d9_23 : decode method_3_code 23 = .ok (.imul, 1) := by decide +kernel
theorem d9_24 : decode method_3_code 24 = .ok (.lushr, 1) := by decide +kernel
theorem d9_25 : decode method_3_code 25 = .ok (.l2i, 1) := by decide +kernel
theorem d9_26 : decode method_3_code 26 = .ok (.i2b, 1) := by decide +kernel
theorem d9_27 : decode method_3_code 27 = .ok (.if_icmp .ne 7, 3) := by decide +kernel
theorem d9_30 : decode method_3_code 30 = .ok (.iconst 1, 1) := by decide +kernel
theorem d9_31 : decode method_3_code 31 = .ok (.goto 4, 3) := by decide +kernel
theorem d9_34 : decode method_3_code 34 = .ok (.iconst 0, 1) := by decide +kernel
theorem d9_35 : decode method_3_code 35 = .ok (.ireturn, 1) := by decide +kernel
def rmR9 : Room := { frames := 0, cells := 0, slots := 0, locals := 0 }
def E9 (Z : State) (h0 : Heap) (o0 : Nat) (vs : List Int32) (rr : Int32) (v : Option Value) (h : Heap) : Prop := v = some (.int rr)
def f9_0 (vs : List Int32) (x1 : Int32) (x2 : Int32) (x3 : Int64) : Option (Int32) := (if x2 < x1 then ((own_get vs x2).bind fun w1 => (if w1 = (((XT.ushrL x3 ((8 : Int32) * (((6 : Int32) - x1) + x2))).toInt32).toInt8.toInt32) then (some (1 : Int32)) else (some (0 : Int32)))) else (some (1 : Int32)))
set_option maxRecDepth 65536 in
set_option maxHeartbeats 40000000 in
theorem b9_0 {p : Program} {l : Launch} {e : Env} {s : State} {m : MethodId} {args : Array Value} {below : List Frame} {meth : Method} {c : Code} {Z : State} {a0 : Array Value} {h0 : Heap} {n0 : Nat} {P : Option Value → Heap → List Loc → Prop} (hw : ∀ d ∈ tables_1, d.before a0 Z = true) (C : own_Ctx p s m meth c Z (⟨"com/example/objwire/objwire/rpc/PduTokenPinLaw", "at", "([BIIJ)Z"⟩ : MethodName) method_3_code 6 (some .boolean)) (Z0 : n0 ≤ h0.size) {o0 : Nat} {vs : List Int32} (rr : Int32) (hP : ∀ v h L, Fr n0 L → Keep h0 h [] → E9 Z h0 o0 vs rr v h → P v h L)
    {T : State} {locs : List Loc} {h : Heap} (X : Stand p l e rmR9 s m args below meth c T locs 0 0) (e0 : T.heap = h) (N : Fr n0 locs) (K : Keep h0 h []) (g_o0 : n0 ≤ o0) (V_o0 : own_AI Z h o0 .byte vs) (x1 : Int32) (x2 : Int32) (x3 : Int64) (hv : f9_0 vs x1 x2 x3 = some rr) :
    own_WP p e below (own_Q s P rmR9.cells rmR9.slots) T (mkF m 0 #[.val (.ref o0), .val (.int x1), .val (.int x2), .val (.long x3), .second, .unset] []) := by
  obtain ⟨hx, hZ, hby, hml, hown, hnm, hret, hlk⟩ := id C
  replace hown : s.vm.findClass "com/example/objwire/objwire/rpc/PduTokenPinLaw" = some m.cls := hown
  unfold f9_0 at hv
  show own_WP p e below _ T (mkF m 0 #[.val (.ref o0), .val (.int x1), .val (.int x2), .val (.long x3), .second, .unset] [])
  refine own_go (fun _ => XS.iloadN X.here hx rfl (hb hby d9_0) rfl) ?_
  show own_WP p e below _ T (mkF m 1 #[.val (.ref o0), .val (.int x1), .val (.int x2), .val (.long x3), .second, .unset] [(.int x2)])
  refine own_go (fun _ => XS.iloadN X.here hx rfl (hb hby d9_1) rfl) ?_
  show own_WP p e below _ T (mkF m 2 #[.val (.ref o0), .val (.int x1), .val (.int x2), .val (.long x3), .second, .unset] [(.int x1), (.int x2)])
  by_cases h2 : x2 < x1
  · replace hv := (if_pos h2).symm.trans hv
    refine own_go (fun _ => XS.icmpYes X.here hx rfl (pc0 := 2) (pc' := 7) rfl (hb hby d9_2) rfl (XT.ii_lt_t h2) (by decide) (by decide)) ?_
    show own_WP p e below _ T (mkF m 7 #[.val (.ref o0), .val (.int x1), .val (.int x2), .val (.long x3), .second, .unset] [])
    refine own_go (fun _ => XS.bipush X.here hx rfl (hb hby d9_7)) ?_
    show own_WP p e below _ T (mkF m 9 #[.val (.ref o0), .val (.int x1), .val (.int x2), .val (.long x3), .second, .unset] [(.int (6 : Int32))])
    refine own_go (fun _ => XS.iloadN X.here hx rfl (hb hby d9_9) rfl) ?_
    show own_WP p e below _ T (mkF m 10 #[.val (.ref o0), .val (.int x1), .val (.int x2), .val (.long x3), .second, .unset] [(.int x1), (.int (6 : Int32))])
    refine own_go (fun _ => XS.isub X.here hx rfl (hb hby d9_10) rfl) ?_
    show own_WP p e below _ T (mkF m 11 #[.val (.ref o0), .val (.int x1), .val (.int x2), .val (.long x3), .second, .unset] [(.int ((6 : Int32) - x1))])
    refine own_go (fun _ => XS.iloadN X.here hx rfl (hb hby d9_11) rfl) ?_
    show own_WP p e below _ T (mkF m 12 #[.val (.ref o0), .val (.int x1), .val (.int x2), .val (.long x3), .second, .unset] [(.int x2), (.int ((6 : Int32) - x1))])
    refine own_go (fun _ => XS.iadd X.here hx rfl (hb hby d9_12) rfl) ?_
    show own_WP p e below _ T (mkF m 13 #[.val (.ref o0), .val (.int x1), .val (.int x2), .val (.long x3), .second, .unset] [(.int (((6 : Int32) - x1) + x2))])
    refine own_go (fun _ => XS.istore X.here hx rfl (hb hby d9_13) rfl (l' := #[.val (.ref o0), .val (.int x1), .val (.int x2), .val (.long x3), .second, .val (.int (((6 : Int32) - x1) + x2))]) rfl) ?_
    show own_WP p e below _ T (mkF m 15 #[.val (.ref o0), .val (.int x1), .val (.int x2), .val (.long x3), .second, .val (.int (((6 : Int32) - x1) + x2))] [])
    refine own_go (fun _ => XS.aloadN X.here hx rfl (hb hby d9_15) rfl rfl) ?_
    show own_WP p e below _ T (mkF m 16 #[.val (.ref o0), .val (.int x1), .val (.int x2), .val (.long x3), .second, .val (.int (((6 : Int32) - x1) + x2))] [(.ref o0)])
    refine own_go (fun _ => XS.iloadN X.here hx rfl (hb hby d9_16) rfl) ?_
    show own_WP p e below _ T (mkF m 17 #[.val (.ref o0), .val (.int x1), .val (.int x2), .val (.long x3), .second, .val (.int (((6 : Int32) - x1) + x2))] [(.int x2), (.ref o0)])
    obtain ⟨w1, hg1, hv⟩ := own_bind hv
    refine own_go (own_baload X C e0 V_o0 hg1 (hb hby d9_17)) ?_
    show own_WP p e below _ T (mkF m 18 #[.val (.ref o0), .val (.int x1), .val (.int x2), .val (.long x3), .second, .val (.int (((6 : Int32) - x1) + x2))] [(.int w1)])
    refine own_go (fun _ => XS.lloadN X.here hx rfl (hb hby d9_18) rfl) ?_
    show own_WP p e below _ T (mkF m 19 #[.val (.ref o0), .val (.int x1), .val (.int x2), .val (.long x3), .second, .val (.int (((6 : Int32) - x1) + x2))] [(.long x3), (.int w1)])
    refine own_go (fun _ => XS.bipush X.here hx rfl (hb hby d9_19)) ?_
    show own_WP p e below _ T (mkF m 21 #[.val (.ref o0), .val (.int x1), .val (.int x2), .val (.long x3), .second, .val (.int (((6 : Int32) - x1) + x2))] [(.int (8 : Int32)), (.long x3), (.int w1)])
    refine own_go (fun _ => XS.iload X.here hx rfl (hb hby d9_21) rfl) ?_
    show own_WP p e below _ T (mkF m 23 #[.val (.ref o0), .val (.int x1), .val (.int x2), .val (.long x3), .second, .val (.int (((6 : Int32) - x1) + x2))] [(.int (((6 : Int32) - x1) + x2)), (.int (8 : Int32)), (.long x3), (.int w1)])
    refine own_go (fun _ => XS.imul X.here hx rfl (hb hby d9_23) rfl) ?_
    show own_WP p e below _ T (mkF m 24 #[.val (.ref o0), .val (.int x1), .val (.int x2), .val (.long x3), .second, .val (.int (((6 : Int32) - x1) + x2))] [(.int ((8 : Int32) * (((6 : Int32) - x1) + x2))), (.long x3), (.int w1)])
    refine own_go (fun _ => XT.lushr X.here hx rfl (hb hby d9_24) rfl) ?_
    show own_WP p e below _ T (mkF m 25 #[.val (.ref o0), .val (.int x1), .val (.int x2), .val (.long x3), .second, .val (.int (((6 : Int32) - x1) + x2))] [(.long (XT.ushrL x3 ((8 : Int32) * (((6 : Int32) - x1) + x2)))), (.int w1)])
    refine own_go (fun _ => XS.l2i X.here hx rfl (hb hby d9_25) rfl) ?_
    show own_WP p e below _ T (mkF m 26 #[.val (.ref o0), .val (.int x1), .val (.int x2), .val (.long x3), .second, .val (.int (((6 : Int32) - x1) + x2))] [(.int ((XT.ushrL x3 ((8 : Int32) * (((6 : Int32) - x1) + x2))).toInt32)), (.int w1)])
    refine own_go (fun _ => XS.i2b X.here hx rfl (hb hby d9_26) rfl) ?_
    show own_WP p e below _ T (mkF m 27 #[.val (.ref o0), .val (.int x1), .val (.int x2), .val (.long x3), .second, .val (.int (((6 : Int32) - x1) + x2))] [(.int (((XT.ushrL x3 ((8 : Int32) * (((6 : Int32) - x1) + x2))).toInt32).toInt8.toInt32)), (.int w1)])
    by_cases h27 : w1 = (((XT.ushrL x3 ((8 : Int32) * (((6 : Int32) - x1) + x2))).toInt32).toInt8.toInt32)
    · replace hv := (if_pos h27).symm.trans hv
      refine own_go (fun _ => XS.icmpNo X.here hx rfl (hb hby d9_27) rfl (XT.ii_ne_f h27)) ?_
      show own_WP p e below _ T (mkF m 30 #[.val (.ref o0), .val (.int x1), .val (.int x2), .val (.long x3), .second, .val (.int (((6 : Int32) - x1) + x2))] [])
      refine own_go (fun _ => XS.iconst X.here hx rfl (hb hby d9_30)) ?_
      show own_WP p e below _ T (mkF m 31 #[.val (.ref o0), .val (.int x1), .val (.int x2), .val (.long x3), .second, .val (.int (((6 : Int32) - x1) + x2))] [(.int (1 : Int32))])
      refine own_go (fun _ => XS.goto X.here hx rfl (pc0 := 31) (pc' := 35) rfl (hb hby d9_31) (by decide) (by decide)) ?_
      show own_WP p e below _ T (mkF m 35 #[.val (.ref o0), .val (.int x1), .val (.int x2), .val (.long x3), .second, .val (.int (((6 : Int32) - x1) + x2))] [(.int (1 : Int32))])
      obtain rfl := Option.some.inj hv
      exact own_retN X C (by simp) (hb hby d9_35) (by rw [e0]; exact hP _ _ _ N K rfl) (by decide) (by decide)
    · replace hv := (if_neg h27).symm.trans hv
      refine own_go (fun _ => XS.icmpYes X.here hx rfl (pc0 := 27) (pc' := 34) rfl (hb hby d9_27) rfl (XT.ii_ne_t h27) (by decide) (by decide)) ?_
      show own_WP p e below _ T (mkF m 34 #[.val (.ref o0), .val (.int x1), .val (.int x2), .val (.long x3), .second, .val (.int (((6 : Int32) - x1) + x2))] [])
      refine own_go (fun _ => XS.iconst X.here hx rfl (hb hby d9_34)) ?_
      show own_WP p e below _ T (mkF m 35 #[.val (.ref o0), .val (.int x1), .val (.int x2), .val (.long x3), .second, .val (.int (((6 : Int32) - x1) + x2))] [(.int (0 : Int32))])
      obtain rfl := Option.some.inj hv
      exact own_retN X C (by simp) (hb hby d9_35) (by rw [e0]; exact hP _ _ _ N K rfl) (by decide) (by decide)
  · replace hv := (if_neg h2).symm.trans hv
    refine own_go (fun _ => XS.icmpNo X.here hx rfl (hb hby d9_2) rfl (XT.ii_lt_f h2)) ?_
    show own_WP p e below _ T (mkF m 5 #[.val (.ref o0), .val (.int x1), .val (.int x2), .val (.long x3), .second, .unset] [])
    refine own_go (fun _ => XS.iconst X.here hx rfl (hb hby d9_5)) ?_
    show own_WP p e below _ T (mkF m 6 #[.val (.ref o0), .val (.int x1), .val (.int x2), .val (.long x3), .second, .unset] [(.int (1 : Int32))])
    obtain rfl := Option.some.inj hv
    exact own_retN X C (by simp) (hb hby d9_6) (by rw [e0]; exact hP _ _ _ N K rfl) (by decide) (by decide)
theorem ef9 (m : MethodId) (o0 : Nat) (x1 : Int32) (x2 : Int32) (x3 : Int64) : entryFrame m #[(.ref o0), (.int x1), (.int x2), (.long x3)] 6 = (mkF m 0 #[.val (.ref o0), .val (.int x1), .val (.int x2), .val (.long x3), .second, .unset] []) := by first | (simp [entryFrame, mkF, argsToLocals, Value.category]; done) | rfl
theorem pd9 : parseMethodDescriptor "([BIIJ)Z" = some ⟨[(.array .byte), .int, .int, .long], some .boolean⟩ := by decide +kernel
theorem pn9 : plainFor (⟨"com/example/objwire/objwire/rpc/PduTokenPinLaw", "at", "([BIIJ)Z"⟩ : MethodName) = true := plainFor_of_name (by first | (simp [plainName, overriddenIn]; done) | decide +kernel)
theorem rm9 (l : Launch) (Z : State) (a0 : Array Value) (hw : ∀ d ∈ tables_1, d.before a0 Z = true) (n0 : Nat) (h0 : Heap) (Z0 : n0 ≤ h0.size) {o0 : Nat} {vs : List Int32}  (g_o0 : n0 ≤ o0) (V_o0 : own_AI Z h0 o0 .byte vs) (x1 : Int32) (x2 : Int32) (x3 : Int64)  (rr : Int32) (hf : f9_0 vs x1 x2 x3 = some rr) :
    own_Met l Z (⟨"com/example/objwire/objwire/rpc/PduTokenPinLaw", "at", "([BIIJ)Z"⟩ : MethodName) method_3_code 6 (some .boolean) [] rmR9 #[(.ref o0), (.int x1), (.int x2), (.long x3)] h0 (fun v h L => Fr n0 L ∧ Keep h0 h [] ∧ E9 Z h0 o0 vs rr v h) := by
  refine own_body pn9 ?_
  intro p e s m below meth c s₁ C X e0
  exact own_cast (ef9 m o0 x1 x2 x3) (b9_0 hw C Z0 rr (fun v h L a b c => ⟨a, b, c⟩) X e0 (Fr.nil n0) (Keep.refl h0 []) g_o0 V_o0 x1 x2 x3 hf)
def E0 (Z : State) (h0 : Heap)   (rr : Int32) (v : Option Value) (h : Heap) : Prop := v = some (.int rr)
def f0_196 (v_b11 : List Int32) (v_b92 : List Int32) (x0 : Int64) (x6 : Int32) (t0 : Int32) : Option (Int32) := (if (0 : Int32) < x6 then ((own_get v_b92 (0 : Int32)).bind fun w12 => ((own_set v_b92 (0 : Int32) (((w12 + (1 : Int32)).toInt8.toInt32).toInt8.toInt32)).bind fun u13 => ((own_get v_b11 ((6 : Int32) - x6)).bind fun w14 => (if w14 = (((XT.ushrL x0 ((8 : Int32) * ((6 : Int32) - x6))).toInt32).toInt8.toInt32) then (some (nar .boolean t0)) else (some (0 : Int32)))))) else (some (nar .boolean t0)))
set_option maxRecDepth 65536 in
set_option maxHeartbeats 40000000 in
theorem b0_196 {p : Program} {l : Launch} {e : Env} {s : State} {m : MethodId} {args : Array Value} {below : List Frame} {meth : Method} {c : Code} {Z : State} {a0 : Array Value} {h0 : Heap} {n0 : Nat} {P : Option Value → Heap → List Loc → Prop} (hw : ∀ d ∈ tables_1, d.before a0 Z = true) (C : own_Ctx p s m meth c Z x code maxLocals ret) (Z0 : n0 ≤ h0.size)   (rr : Int32) (hP : ∀ v h L, Fr n0 L → Keep h0 h [] → E0 Z h0  rr v h → P v h L)
    {T : State} {locs : List Loc} {h : Heap} {b11 : Nat} {b72 : Nat} {b92 : Nat} {v_b11 : List Int32} {c_b72_type : Int32} {c_b72_flags : Int32} {c_b72_callId : Int32} {c_b72_authLength : Int32} {v_b92 : List Int32} (X : Stand p l e room_1 s m args below meth c T locs 3 17) (e0 : T.heap = h) (N : Fr n0 locs) (K : Keep h0 h []) (o_b11_b72 : b11 < b72) (o_b72_b92 : b72 < b92) (g_b11 : n0 ≤ b11) (z_b11 : h0.size ≤ b11) (V_b11 : own_AI Z h b11 .byte v_b11) (E_b72 : Exa Z h b72 "com/example/objwire/objwire/rpc/Pdu") (F_b72_type : Fld Z h b72 "com/example/objwire/objwire/rpc/Pdu" "type" "I" (.int c_b72_type)) (F_b72_flags : Fld Z h b72 "com/example/objwire/objwire/rpc/Pdu" "flags" "I" (.int c_b72_flags)) (F_b72_callId : Fld Z h b72 "com/example/objwire/objwire/rpc/Pdu" "callId" "I" (.int c_b72_callId)) (F_b72_body : Fld Z h b72 "com/example/objwire/objwire/rpc/Pdu" "body" "[B" (.ref b11)) (F_b72_authLength : Fld Z h b72 "com/example/objwire/objwire/rpc/Pdu" "authLength" "I" (.int c_b72_authLength)) (V_b92 : own_AI Z h b92 .byte v_b92) (x0 : Int64) (x2 : Int32) (x3 : Int32) (x4 : Int32) (x5 : Int32) (x6 : Int32) (s8 : Slot) (hs8 : One s8) (t0 : Int32) (hv : f0_196 v_b11 v_b92 x0 x6 t0 = some rr) :
    own_WP p e below (own_Q s P room_1.cells room_1.slots) T (mkF m 196 #[.val (.long x0), .second, .val (.int x2), .val (.int x3), .val (.int x4), .val (.int x5), .val (.int x6), .val (.ref b11), s8, .val (.ref b92), .unset, .unset] [(.int t0)]) := by
  obtain ⟨hx, hZ, hby, hml, hown, hnm, hret, hlk⟩ := id C
  replace hown : s.vm.findClass "com/example/objwire/objwire/rpc/PduTokenPinLaw" = some m.cls := hown
  unfold f0_196 at hv
  show own_WP p e below _ T (mkF m 196 #[.val (.long x0), .second, .val (.int x2), .val (.int x3), .val (.int x4), .val (.int x5), .val (.int x6), .val (.ref b11), s8, .val (.ref b92), .unset, .unset] [(.int t0)])
  refine own_go (fun _ => XS.istore X.here hx rfl (hb hby at_196) rfl (l' := #[.val (.long x0), .second, .val (.int x2), .val (.int x3), .val (.int x4), .val (.int x5), .val (.int x6), .val (.ref b11), s8, .val (.ref b92), .val (.int t0), .unset]) rfl) ?_
  show own_WP p e below _ T (mkF m 198 #[.val (.long x0), .second, .val (.int x2), .val (.int x3), .val (.int x4), .val (.int x5), .val (.int x6), .val (.ref b11), s8, .val (.ref b92), .val (.int t0), .unset] [])
  refine own_go (fun _ => XS.iload X.here hx rfl (hb hby at_198) rfl) ?_
  show own_WP p e below _ T (mkF m 200 #[.val (.long x0), .second, .val (.int x2), .val (.int x3), .val (.int x4), .val (.int x5), .val (.int x6), .val (.ref b11), s8, .val (.ref b92), .val (.int t0), .unset] [(.int x6)])
  by_cases h200 : (0 : Int32) < x6
  · replace hv := (if_pos h200).symm.trans hv
    refine own_go (fun _ => XS.ifNo X.here hx rfl (hb hby at_200) rfl (XT.i0_le_f h200)) ?_
    show own_WP p e below _ T (mkF m 203 #[.val (.long x0), .second, .val (.int x2), .val (.int x3), .val (.int x4), .val (.int x5), .val (.int x6), .val (.ref b11), s8, .val (.ref b92), .val (.int t0), .unset] [])
    refine own_go (fun _ => XS.aload X.here hx rfl (hb hby at_203) rfl rfl) ?_
    show own_WP p e below _ T (mkF m 205 #[.val (.long x0), .second, .val (.int x2), .val (.int x3), .val (.int x4), .val (.int x5), .val (.int x6), .val (.ref b11), s8, .val (.ref b92), .val (.int t0), .unset] [(.ref b92)])
    refine own_go (fun _ => XS.iconst X.here hx rfl (hb hby at_205)) ?_
    show own_WP p e below _ T (mkF m 206 #[.val (.long x0), .second, .val (.int x2), .val (.int x3), .val (.int x4), .val (.int x5), .val (.int x6), .val (.ref b11), s8, .val (.ref b92), .val (.int t0), .unset] [(.int (0 : Int32)), (.ref b92)])
    refine own_go (fun _ => XS.aload X.here hx rfl (hb hby at_206) rfl rfl) ?_
    show own_WP p e below _ T (mkF m 208 #[.val (.long x0), .second, .val (.int x2), .val (.int x3), .val (.int x4), .val (.int x5), .val (.int x6), .val (.ref b11), s8, .val (.ref b92), .val (.int t0), .unset] [(.ref b92), (.int (0 : Int32)), (.ref b92)])
    refine own_go (fun _ => XS.iconst X.here hx rfl (hb hby at_208)) ?_
    show own_WP p e below _ T (mkF m 209 #[.val (.long x0), .second, .val (.int x2), .val (.int x3), .val (.int x4), .val (.int x5), .val (.int x6), .val (.ref b11), s8, .val (.ref b92), .val (.int t0), .unset] [(.int (0 : Int32)), (.ref b92), (.int (0 : Int32)), (.ref b92)])
    obtain ⟨w12, hg12, hv⟩ := own_bind hv
    refine own_go (own_baload X C e0 V_b92 hg12 (hb hby at_209)) ?_
    show own_WP p e below _ T (mkF m 210 #[.val (.long x0), .second, .val (.int x2), .val (.int x3), .val (.int x4), .val (.int x5), .val (.int x6), .val (.ref b11), s8, .val (.ref b92), .val (.int t0), .unset] [(.int w12), (.int (0 : Int32)), (.ref b92)])
    refine own_go (fun _ => XS.iconst X.here hx rfl (hb hby at_210)) ?_
    show own_WP p e below _ T (mkF m 211 #[.val (.long x0), .second, .val (.int x2), .val (.int x3), .val (.int x4), .val (.int x5), .val (.int x6), .val (.ref b11), s8, .val (.ref b92), .val (.int t0), .unset] [(.int (1 : Int32)), (.int w12), (.int (0 : Int32)), (.ref b92)])
    refine own_go (fun _ => XS.iadd X.here hx rfl (hb hby at_211) rfl) ?_
    show own_WP p e below _ T (mkF m 212 #[.val (.long x0), .second, .val (.int x2), .val (.int x3), .val (.int x4), .val (.int x5), .val (.int x6), .val (.ref b11), s8, .val (.ref b92), .val (.int t0), .unset] [(.int (w12 + (1 : Int32))), (.int (0 : Int32)), (.ref b92)])
    refine own_go (fun _ => XS.i2b X.here hx rfl (hb hby at_212) rfl) ?_
    show own_WP p e below _ T (mkF m 213 #[.val (.long x0), .second, .val (.int x2), .val (.int x3), .val (.int x4), .val (.int x5), .val (.int x6), .val (.ref b11), s8, .val (.ref b92), .val (.int t0), .unset] [(.int ((w12 + (1 : Int32)).toInt8.toInt32)), (.int (0 : Int32)), (.ref b92)])
    obtain ⟨u13, hg13, hv⟩ := own_bind hv
    obtain ⟨T13, h13, X13, e13, W13, V'13, st13⟩ := own_bastore X C e0 V_b92 (j := (0 : Int32)) (x := ((w12 + (1 : Int32)).toInt8.toInt32)) hg13 (hb hby at_213)
    refine own_go st13 ?_
    replace V_b11 := V_b11.other W13 (own_ne (by omega))
    replace E_b72 := E_b72.wr W13
    replace F_b72_type := F_b72_type.other W13 (Or.inl (own_ne (by omega)))
    replace F_b72_flags := F_b72_flags.other W13 (Or.inl (own_ne (by omega)))
    replace F_b72_callId := F_b72_callId.other W13 (Or.inl (own_ne (by omega)))
    replace F_b72_body := F_b72_body.other W13 (Or.inl (own_ne (by omega)))
    replace F_b72_authLength := F_b72_authLength.other W13 (Or.inl (own_ne (by omega)))
    replace V_b92 := V'13
    clear V'13
    replace K := K.wr W13 (Or.inr (by omega))
    replace N := Fr.snoc X13 N (by omega)
    show own_WP p e below _ T13 (mkF m 214 #[.val (.long x0), .second, .val (.int x2), .val (.int x3), .val (.int x4), .val (.int x5), .val (.int x6), .val (.ref b11), s8, .val (.ref b92), .val (.int t0), .unset] [])
    refine own_go (fun _ => XS.bipush X13.here hx rfl (hb hby at_214)) ?_
    show own_WP p e below _ T13 (mkF m 216 #[.val (.long x0), .second, .val (.int x2), .val (.int x3), .val (.int x4), .val (.int x5), .val (.int x6), .val (.ref b11), s8, .val (.ref b92), .val (.int t0), .unset] [(.int (6 : Int32))])
    refine own_go (fun _ => XS.iload X13.here hx rfl (hb hby at_216) rfl) ?_
    show own_WP p e below _ T13 (mkF m 218 #[.val (.long x0), .second, .val (.int x2), .val (.int x3), .val (.int x4), .val (.int x5), .val (.int x6), .val (.ref b11), s8, .val (.ref b92), .val (.int t0), .unset] [(.int x6), (.int (6 : Int32))])
    refine own_go (fun _ => XS.isub X13.here hx rfl (hb hby at_218) rfl) ?_
    show own_WP p e below _ T13 (mkF m 219 #[.val (.long x0), .second, .val (.int x2), .val (.int x3), .val (.int x4), .val (.int x5), .val (.int x6), .val (.ref b11), s8, .val (.ref b92), .val (.int t0), .unset] [(.int ((6 : Int32) - x6))])
    refine own_go (fun _ => XS.istore X13.here hx rfl (hb hby at_219) rfl (l' := #[.val (.long x0), .second, .val (.int x2), .val (.int x3), .val (.int x4), .val (.int x5), .val (.int x6), .val (.ref b11), s8, .val (.ref b92), .val (.int t0), .val (.int ((6 : Int32) - x6))]) rfl) ?_
    show own_WP p e below _ T13 (mkF m 221 #[.val (.long x0), .second, .val (.int x2), .val (.int x3), .val (.int x4), .val (.int x5), .val (.int x6), .val (.ref b11), s8, .val (.ref b92), .val (.int t0), .val (.int ((6 : Int32) - x6))] [])
    refine own_go (fun _ => XS.aload X13.here hx rfl (hb hby at_221) rfl rfl) ?_
    show own_WP p e below _ T13 (mkF m 223 #[.val (.long x0), .second, .val (.int x2), .val (.int x3), .val (.int x4), .val (.int x5), .val (.int x6), .val (.ref b11), s8, .val (.ref b92), .val (.int t0), .val (.int ((6 : Int32) - x6))] [(.ref b11)])
    refine own_go (fun _ => XS.iload X13.here hx rfl (hb hby at_223) rfl) ?_
    show own_WP p e below _ T13 (mkF m 225 #[.val (.long x0), .second, .val (.int x2), .val (.int x3), .val (.int x4), .val (.int x5), .val (.int x6), .val (.ref b11), s8, .val (.ref b92), .val (.int t0), .val (.int ((6 : Int32) - x6))] [(.int ((6 : Int32) - x6)), (.ref b11)])
    obtain ⟨w14, hg14, hv⟩ := own_bind hv
    refine own_go (own_baload X13 C e13 V_b11 hg14 (hb hby at_225)) ?_
    show own_WP p e below _ T13 (mkF m 226 #[.val (.long x0), .second, .val (.int x2), .val (.int x3), .val (.int x4), .val (.int x5), .val (.int x6), .val (.ref b11), s8, .val (.ref b92), .val (.int t0), .val (.int ((6 : Int32) - x6))] [(.int w14)])
    refine own_go (fun _ => XS.lloadN X13.here hx rfl (hb hby at_226) rfl) ?_
    show own_WP p e below _ T13 (mkF m 227 #[.val (.long x0), .second, .val (.int x2), .val (.int x3), .val (.int x4), .val (.int x5), .val (.int x6), .val (.ref b11), s8, .val (.ref b92), .val (.int t0), .val (.int ((6 : Int32) - x6))] [(.long x0), (.int w14)])
    refine own_go (fun _ => XS.bipush X13.here hx rfl (hb hby at_227)) ?_
    show own_WP p e below _ T13 (mkF m 229 #[.val (.long x0), .second, .val (.int x2), .val (.int x3), .val (.int x4), .val (.int x5), .val (.int x6), .val (.ref b11), s8, .val (.ref b92), .val (.int t0), .val (.int ((6 : Int32) - x6))] [(.int (8 : Int32)), (.long x0), (.int w14)])
    refine own_go (fun _ => XS.iload X13.here hx rfl (hb hby at_229) rfl) ?_
    show own_WP p e below _ T13 (mkF m 231 #[.val (.long x0), .second, .val (.int x2), .val (.int x3), .val (.int x4), .val (.int x5), .val (.int x6), .val (.ref b11), s8, .val (.ref b92), .val (.int t0), .val (.int ((6 : Int32) - x6))] [(.int ((6 : Int32) - x6)), (.int (8 : Int32)), (.long x0), (.int w14)])
    refine own_go (fun _ => XS.imul X13.here hx rfl (hb hby at_231) rfl) ?_
    show own_WP p e below _ T13 (mkF m 232 #[.val (.long x0), .second, .val (.int x2), .val (.int x3), .val (.int x4), .val (.int x5), .val (.int x6), .val (.ref b11), s8, .val (.ref b92), .val (.int t0), .val (.int ((6 : Int32) - x6))] [(.int ((8 : Int32) * ((6 : Int32) - x6))), (.long x0), (.int w14)])
    refine own_go (fun _ => XT.lushr X13.here hx rfl (hb hby at_232) rfl) ?_
    show own_WP p e below _ T13 (mkF m 233 #[.val (.long x0), .second, .val (.int x2), .val (.int x3), .val (.int x4), .val (.int x5), .val (.int x6), .val (.ref b11), s8, .val (.ref b92), .val (.int t0), .val (.int ((6 : Int32) - x6))] [(.long (XT.ushrL x0 ((8 : Int32) * ((6 : Int32) - x6)))), (.int w14)])
    refine own_go (fun _ => XS.l2i X13.here hx rfl (hb hby at_233) rfl) ?_
    show own_WP p e below _ T13 (mkF m 234 #[.val (.long x0), .second, .val (.int x2), .val (.int x3), .val (.int x4), .val (.int x5), .val (.int x6), .val (.ref b11), s8, .val (.ref b92), .val (.int t0), .val (.int ((6 : Int32) - x6))] [(.int ((XT.ushrL x0 ((8 : Int32) * ((6 : Int32) - x6))).toInt32)), (.int w14)])
    refine own_go (fun _ => XS.i2b X13.here hx rfl (hb hby at_234) rfl) ?_
    show own_WP p e below _ T13 (mkF m 235 #[.val (.long x0), .second, .val (.int x2), .val (.int x3), .val (.int x4), .val (.int x5), .val (.int x6), .val (.ref b11), s8, .val (.ref b92), .val (.int t0), .val (.int ((6 : Int32) - x6))] [(.int (((XT.ushrL x0 ((8 : Int32) * ((6 : Int32) - x6))).toInt32).toInt8.toInt32)), (.int w14)])
    by_cases h235 : w14 = (((XT.ushrL x0 ((8 : Int32) * ((6 : Int32) - x6))).toInt32).toInt8.toInt32)
    · replace hv := (if_pos h235).symm.trans hv
      refine own_go (fun _ => XS.icmpYes X13.here hx rfl (pc0 := 235) (pc' := 240) rfl (hb hby at_235) rfl (XT.ii_eq_t h235) (by decide) (by decide)) ?_
      show own_WP p e below _ T13 (mkF m 240 #[.val (.long x0), .second, .val (.int x2), .val (.int x3), .val (.int x4), .val (.int x5), .val (.int x6), .val (.ref b11), s8, .val (.ref b92), .val (.int t0), .val (.int ((6 : Int32) - x6))] [])
      refine own_go (fun _ => XS.iload X13.here hx rfl (hb hby at_240) rfl) ?_
      show own_WP p e below _ T13 (mkF m 242 #[.val (.long x0), .second, .val (.int x2), .val (.int x3), .val (.int x4), .val (.int x5), .val (.int x6), .val (.ref b11), s8, .val (.ref b92), .val (.int t0), .val (.int ((6 : Int32) - x6))] [(.int t0)])
      obtain rfl := Option.some.inj hv
      exact own_retN X13 C (by simp) (hb hby at_242) (by rw [e13]; exact hP _ _ _ N K rfl) (by decide) (by decide)
    · replace hv := (if_neg h235).symm.trans hv
      refine own_go (fun _ => XS.icmpNo X13.here hx rfl (hb hby at_235) rfl (XT.ii_eq_f h235)) ?_
      show own_WP p e below _ T13 (mkF m 238 #[.val (.long x0), .second, .val (.int x2), .val (.int x3), .val (.int x4), .val (.int x5), .val (.int x6), .val (.ref b11), s8, .val (.ref b92), .val (.int t0), .val (.int ((6 : Int32) - x6))] [])
      refine own_go (fun _ => XS.iconst X13.here hx rfl (hb hby at_238)) ?_
      show own_WP p e below _ T13 (mkF m 239 #[.val (.long x0), .second, .val (.int x2), .val (.int x3), .val (.int x4), .val (.int x5), .val (.int x6), .val (.ref b11), s8, .val (.ref b92), .val (.int t0), .val (.int ((6 : Int32) - x6))] [(.int (0 : Int32))])
      obtain rfl := Option.some.inj hv
      exact own_retN X13 C (by simp) (hb hby at_239) (by rw [e13]; exact hP _ _ _ N K rfl) (by decide) (by decide)
  · replace hv := (if_neg h200).symm.trans hv
    refine own_go (fun _ => XS.ifYes X.here hx rfl (pc0 := 200) (pc' := 240) rfl (hb hby at_200) rfl (XT.i0_le_t h200) (by decide) (by decide)) ?_
    show own_WP p e below _ T (mkF m 240 #[.val (.long x0), .second, .val (.int x2), .val (.int x3), .val (.int x4), .val (.int x5), .val (.int x6), .val (.ref b11), s8, .val (.ref b92), .val (.int t0), .unset] [])
    refine own_go (fun _ => XS.iload X.here hx rfl (hb hby at_240) rfl) ?_
    show own_WP p e below _ T (mkF m 242 #[.val (.long x0), .second, .val (.int x2), .val (.int x3), .val (.int x4), .val (.int x5), .val (.int x6), .val (.ref b11), s8, .val (.ref b92), .val (.int t0), .unset] [(.int t0)])
    obtain rfl := Option.some.inj hv
    exact own_retN X C (by simp) (hb hby at_242) (by rw [e0]; exact hP _ _ _ N K rfl) (by decide) (by decide)
def f0_195 (v_b11 : List Int32) (v_b92 : List Int32) (x0 : Int64) (x6 : Int32) : Option (Int32) := (f0_196 v_b11 v_b92 x0 x6 (0 : Int32))
set_option maxRecDepth 65536 in
set_option maxHeartbeats 40000000 in
theorem b0_195 {p : Program} {l : Launch} {e : Env} {s : State} {m : MethodId} {args : Array Value} {below : List Frame} {meth : Method} {c : Code} {Z : State} {a0 : Array Value} {h0 : Heap} {n0 : Nat} {P : Option Value → Heap → List Loc → Prop} (hw : ∀ d ∈ tables_1, d.before a0 Z = true) (C : own_Ctx p s m meth c Z x code maxLocals ret) (Z0 : n0 ≤ h0.size)   (rr : Int32) (hP : ∀ v h L, Fr n0 L → Keep h0 h [] → E0 Z h0  rr v h → P v h L)
    {T : State} {locs : List Loc} {h : Heap} {b11 : Nat} {b72 : Nat} {b92 : Nat} {v_b11 : List Int32} {c_b72_type : Int32} {c_b72_flags : Int32} {c_b72_callId : Int32} {c_b72_authLength : Int32} {v_b92 : List Int32} (X : Stand p l e room_1 s m args below meth c T locs 3 17) (e0 : T.heap = h) (N : Fr n0 locs) (K : Keep h0 h []) (o_b11_b72 : b11 < b72) (o_b72_b92 : b72 < b92) (g_b11 : n0 ≤ b11) (z_b11 : h0.size ≤ b11) (V_b11 : own_AI Z h b11 .byte v_b11) (E_b72 : Exa Z h b72 "com/example/objwire/objwire/rpc/Pdu") (F_b72_type : Fld Z h b72 "com/example/objwire/objwire/rpc/Pdu" "type" "I" (.int c_b72_type)) (F_b72_flags : Fld Z h b72 "com/example/objwire/objwire/rpc/Pdu" "flags" "I" (.int c_b72_flags)) (F_b72_callId : Fld Z h b72 "com/example/objwire/objwire/rpc/Pdu" "callId" "I" (.int c_b72_callId)) (F_b72_body : Fld Z h b72 "com/example/objwire/objwire/rpc/Pdu" "body" "[B" (.ref b11)) (F_b72_authLength : Fld Z h b72 "com/example/objwire/objwire/rpc/Pdu" "authLength" "I" (.int c_b72_authLength)) (V_b92 : own_AI Z h b92 .byte v_b92) (x0 : Int64) (x2 : Int32) (x3 : Int32) (x4 : Int32) (x5 : Int32) (x6 : Int32) (s8 : Slot) (hs8 : One s8) (hv : f0_195 v_b11 v_b92 x0 x6 = some rr) :
    own_WP p e below (own_Q s P room_1.cells room_1.slots) T (mkF m 195 #[.val (.long x0), .second, .val (.int x2), .val (.int x3), .val (.int x4), .val (.int x5), .val (.int x6), .val (.ref b11), s8, .val (.ref b92), .unset, .unset] []) := by
  obtain ⟨hx, hZ, hby, hml, hown, hnm, hret, hlk⟩ := id C
  replace hown : s.vm.findClass "com/example/objwire/objwire/rpc/PduTokenPinLaw" = some m.cls := hown
  unfold f0_195 at hv
  show own_WP p e below _ T (mkF m 195 #[.val (.long x0), .second, .val (.int x2), .val (.int x3), .val (.int x4), .val (.int x5), .val (.int x6), .val (.ref b11), s8, .val (.ref b92), .unset, .unset] [])
  refine own_go (fun _ => XS.iconst X.here hx rfl (hb hby at_195)) ?_
  exact b0_196 hw C Z0 rr hP X e0 N K o_b11_b72 o_b72_b92 g_b11 z_b11 V_b11 E_b72 F_b72_type F_b72_flags F_b72_callId F_b72_body F_b72_authLength V_b92 x0 x2 x3 x4 x5 x6 s8 hs8 (0 : Int32) hv
def f0_72 (v_b11 : List Int32) (x0 : Int64) (x3 : Int32) (x4 : Int32) (x5 : Int32) (x6 : Int32) : Option (Int32) := ((f1_0 x3 x4 x5 x6).bind fun rr9 => ((f4_0 v_b11 (rr9.2.2.2)).bind fun rr10 => (if (Int32.ofNat rr10.length) = x6 then ((f9_0 rr10 x6 (0 : Int32) x0).bind fun rr11 => (if rr11 = (0 : Int32) then (f0_195 v_b11 rr10 x0 x6) else ((f9_0 rr10 x6 (1 : Int32) x0).bind fun rr15 => (if rr15 = (0 : Int32) then (f0_195 v_b11 rr10 x0 x6) else ((f9_0 rr10 x6 (2 : Int32) x0).bind fun rr16 => (if rr16 = (0 : Int32) then (f0_195 v_b11 rr10 x0 x6) else ((f9_0 rr10 x6 (3 : Int32) x0).bind fun rr17 => (if rr17 = (0 : Int32) then (f0_195 v_b11 rr10 x0 x6) else ((f9_0 rr10 x6 (4 : Int32) x0).bind fun rr18 => (if rr18 = (0 : Int32) then (f0_195 v_b11 rr10 x0 x6) else ((f9_0 rr10 x6 (5 : Int32) x0).bind fun rr19 => (if rr19 = (0 : Int32) then (f0_195 v_b11 rr10 x0 x6) else (f0_196 v_b11 rr10 x0 x6 (1 : Int32)))))))))))))) else (some (0 : Int32)))))
set_option maxRecDepth 65536 in
set_option maxHeartbeats 40000000 in
theorem b0_72 {p : Program} {l : Launch} {e : Env} {s : State} {m : MethodId} {args : Array Value} {below : List Frame} {meth : Method} {c : Code} {Z : State} {a0 : Array Value} {h0 : Heap} {n0 : Nat} {P : Option Value → Heap → List Loc → Prop} (hw : ∀ d ∈ tables_1, d.before a0 Z = true) (C : own_Ctx p s m meth c Z x code maxLocals ret) (Z0 : n0 ≤ h0.size)   (rr : Int32) (hP : ∀ v h L, Fr n0 L → Keep h0 h [] → E0 Z h0  rr v h → P v h L)
    {T : State} {locs : List Loc} {h : Heap} {b11 : Nat} {v_b11 : List Int32} (X : Stand p l e room_1 s m args below meth c T locs 1 6) (e0 : T.heap = h) (N : Fr n0 locs) (K : Keep h0 h []) (g_b11 : n0 ≤ b11) (z_b11 : h0.size ≤ b11) (V_b11 : own_AI Z h b11 .byte v_b11) (x0 : Int64) (x2 : Int32) (x3 : Int32) (x4 : Int32) (x5 : Int32) (x6 : Int32) (hv : f0_72 v_b11 x0 x3 x4 x5 x6 = some rr) :
    own_WP p e below (own_Q s P room_1.cells room_1.slots) T (mkF m 72 #[.val (.long x0), .second, .val (.int x2), .val (.int x3), .val (.int x4), .val (.int x5), .val (.int x6), .val (.ref b11), .unset, .unset, .unset, .unset] []) := by
  obtain ⟨hx, hZ, hby, hml, hown, hnm, hret, hlk⟩ := id C
  replace hown : s.vm.findClass "com/example/objwire/objwire/rpc/PduTokenPinLaw" = some m.cls := hown
  unfold f0_72 at hv
  show own_WP p e below _ T (mkF m 72 #[.val (.long x0), .second, .val (.int x2), .val (.int x3), .val (.int x4), .val (.int x5), .val (.int x6), .val (.ref b11), .unset, .unset, .unset, .unset] [])
  obtain ⟨T8, h8, X8, e8, E8, A8, D8, -, st8⟩ := newO X hx hZ hown (hw _ (List.mem_of_getElem? (i := 2) rfl)) (hw _ (List.mem_of_getElem? (i := 3) rfl)) (hw _ (List.mem_of_getElem? (i := 4) rfl)) e0 (g := (mkF m 72 #[.val (.long x0), .second, .val (.int x2), .val (.int x3), .val (.int x4), .val (.int x5), .val (.int x6), .val (.ref b11), .unset, .unset, .unset, .unset] [])) rfl (hb hby at_72) (by decide) (by decide)
  obtain ⟨b72, hb_b72⟩ : ∃ z, z = h.size := ⟨_, rfl⟩
  rw [← hb_b72] at A8 D8 st8
  refine own_go st8 ?_
  have o_b11_b72 : b11 < b72 := by have q : b11 < h.size := V_b11.lt; omega
  replace V_b11 := V_b11.ext E8
  replace K := K.ext E8
  have E_b72 := A8
  have F_b72_type : Fld Z h8 b72 "com/example/objwire/objwire/rpc/Pdu" "type" "I" (.int (0 : Int32)) := D8 (Or.inr (hw _ (List.mem_of_getElem? (i := 17) rfl))) (ty := .int) (by decide)
  have F_b72_flags : Fld Z h8 b72 "com/example/objwire/objwire/rpc/Pdu" "flags" "I" (.int (0 : Int32)) := D8 (Or.inr (hw _ (List.mem_of_getElem? (i := 19) rfl))) (ty := .int) (by decide)
  have F_b72_callId : Fld Z h8 b72 "com/example/objwire/objwire/rpc/Pdu" "callId" "I" (.int (0 : Int32)) := D8 (Or.inr (hw _ (List.mem_of_getElem? (i := 21) rfl))) (ty := .int) (by decide)
  have F_b72_body : Fld Z h8 b72 "com/example/objwire/objwire/rpc/Pdu" "body" "[B" .null := D8 (Or.inr (hw _ (List.mem_of_getElem? (i := 23) rfl))) (ty := (.array .byte)) (by decide)
  have F_b72_authLength : Fld Z h8 b72 "com/example/objwire/objwire/rpc/Pdu" "authLength" "I" (.int (0 : Int32)) := D8 (Or.inr (hw _ (List.mem_of_getElem? (i := 25) rfl))) (ty := .int) (by decide)
  show own_WP p e below _ T8 (mkF m 75 #[.val (.long x0), .second, .val (.int x2), .val (.int x3), .val (.int x4), .val (.int x5), .val (.int x6), .val (.ref b11), .unset, .unset, .unset, .unset] [(.ref b72)])
  refine own_go (fun _ => XS.dup X8.here hx rfl (hb hby at_75) rfl rfl) ?_
  show own_WP p e below _ T8 (mkF m 76 #[.val (.long x0), .second, .val (.int x2), .val (.int x3), .val (.int x4), .val (.int x5), .val (.int x6), .val (.ref b11), .unset, .unset, .unset, .unset] [(.ref b72), (.ref b72)])
  refine own_go (fun _ => XS.iloadN X8.here hx rfl (hb hby at_76) rfl) ?_
  show own_WP p e below _ T8 (mkF m 77 #[.val (.long x0), .second, .val (.int x2), .val (.int x3), .val (.int x4), .val (.int x5), .val (.int x6), .val (.ref b11), .unset, .unset, .unset, .unset] [(.int x3), (.ref b72), (.ref b72)])
  refine own_go (fun _ => XS.iload X8.here hx rfl (hb hby at_77) rfl) ?_
  show own_WP p e below _ T8 (mkF m 79 #[.val (.long x0), .second, .val (.int x2), .val (.int x3), .val (.int x4), .val (.int x5), .val (.int x6), .val (.ref b11), .unset, .unset, .unset, .unset] [(.int x4), (.int x3), (.ref b72), (.ref b72)])
  refine own_go (fun _ => XS.iload X8.here hx rfl (hb hby at_79) rfl) ?_
  show own_WP p e below _ T8 (mkF m 81 #[.val (.long x0), .second, .val (.int x2), .val (.int x3), .val (.int x4), .val (.int x5), .val (.int x6), .val (.ref b11), .unset, .unset, .unset, .unset] [(.int x5), (.int x4), (.int x3), (.ref b72), (.ref b72)])
  refine own_go (fun _ => XS.aload X8.here hx rfl (hb hby at_81) rfl rfl) ?_
  show own_WP p e below _ T8 (mkF m 83 #[.val (.long x0), .second, .val (.int x2), .val (.int x3), .val (.int x4), .val (.int x5), .val (.int x6), .val (.ref b11), .unset, .unset, .unset, .unset] [(.ref b11), (.int x5), (.int x4), (.int x3), (.ref b72), (.ref b72)])
  refine own_go (fun _ => XS.iload X8.here hx rfl (hb hby at_83) rfl) ?_
  show own_WP p e below _ T8 (mkF m 85 #[.val (.long x0), .second, .val (.int x2), .val (.int x3), .val (.int x4), .val (.int x5), .val (.int x6), .val (.ref b11), .unset, .unset, .unset, .unset] [(.int x6), (.ref b11), (.int x5), (.int x4), (.int x3), (.ref b72), (.ref b72)])
  obtain ⟨rr9, hf9, hv⟩ := own_bind hv
  obtain ⟨T9, v9, L9, X9, ⟨N9, K9, Q9⟩, st9⟩ := own_callN X8 C (a := b72) (argsL := [(.int x3), (.int x4), (.int x5), (.ref b11), (.int x6)]) (rm1 l Z a0 hw n0 h8 (by have q := K.1; omega) (o4 := b11) (by omega) E_b72 F_b72_type F_b72_flags F_b72_callId F_b72_body F_b72_authLength x3 x4 x5 x6 rr9 hf9) rfl (hw _ (List.mem_of_getElem? (i := 5) rfl)) (hw _ (List.mem_of_getElem? (i := 6) rfl)) (hw _ (List.mem_of_getElem? (i := 4) rfl)) (hw _ (List.mem_of_getElem? (i := 7) rfl)) (by decide) e8 (W := 1) (pc := 85) (Ls := #[.val (.long x0), .second, .val (.int x2), .val (.int x3), .val (.int x4), .val (.int x5), .val (.int x6), .val (.ref b11), .unset, .unset, .unset, .unset]) rfl (lenOf pd1 rfl) (rest := [(.ref b72)]) (stk := [(.int x6), (.ref b11), (.int x5), (.int x4), (.int x3), (.ref b72), (.ref b72)]) rfl (Nat.le_of_ble_eq_true rfl) (hb hby at_85) (by decide) (by decide) (by decide) (by decide)
  replace N := Fr.app N N9
  replace V_b11 := V_b11.keep K9 (ninS (own_ne (by omega)) nin0)
  clear E_b72
  clear F_b72_type
  clear F_b72_flags
  clear F_b72_callId
  clear F_b72_body
  clear F_b72_authLength
  obtain ⟨rfl, E_b72, F_b72_type, F_b72_flags, F_b72_callId, F_b72_body, F_b72_authLength⟩ := Q9
  replace K := K.trans K9 (allS (Or.inr (by omega)) all0)
  refine own_go st9 ?_
  show own_WP p e below _ T9 (mkF m 88 #[.val (.long x0), .second, .val (.int x2), .val (.int x3), .val (.int x4), .val (.int x5), .val (.int x6), .val (.ref b11), .unset, .unset, .unset, .unset] [(.ref b72)])
  refine own_go (fun _ => XS.astore X9.here hx rfl (hb hby at_88) rfl rfl (l' := #[.val (.long x0), .second, .val (.int x2), .val (.int x3), .val (.int x4), .val (.int x5), .val (.int x6), .val (.ref b11), .val (.ref b72), .unset, .unset, .unset]) rfl) ?_
  show own_WP p e below _ T9 (mkF m 90 #[.val (.long x0), .second, .val (.int x2), .val (.int x3), .val (.int x4), .val (.int x5), .val (.int x6), .val (.ref b11), .val (.ref b72), .unset, .unset, .unset] [])
  refine own_go (fun _ => XS.aload X9.here hx rfl (hb hby at_90) rfl rfl) ?_
  show own_WP p e below _ T9 (mkF m 92 #[.val (.long x0), .second, .val (.int x2), .val (.int x3), .val (.int x4), .val (.int x5), .val (.int x6), .val (.ref b11), .val (.ref b72), .unset, .unset, .unset] [(.ref b72)])
  obtain ⟨rr10, hf10, hv⟩ := own_bind hv
  obtain ⟨T10, v10, L10, X10, ⟨N10, K10, Q10⟩, st10⟩ := own_callV X9 C (a := b72) (argsL := []) (rm4 l Z a0 hw n0 T9.heap (by have q := K.1; omega) (by omega) (by omega) V_b11 E_b72 F_b72_type F_b72_flags F_b72_callId F_b72_body F_b72_authLength rr10 hf10) (hw _ (List.mem_of_getElem? (i := 26) rfl)) (hw _ (List.mem_of_getElem? (i := 27) rfl)) (hw _ (List.mem_of_getElem? (i := 29) rfl)) (hw _ (List.mem_of_getElem? (i := 28) rfl)) (hw _ (List.mem_of_getElem? (i := 4) rfl)) (hw _ (List.mem_of_getElem? (i := 30) rfl)) (by decide) (rfl : T9.heap = T9.heap) E_b72 (W := 0) (pc := 92) (Ls := #[.val (.long x0), .second, .val (.int x2), .val (.int x3), .val (.int x4), .val (.int x5), .val (.int x6), .val (.ref b11), .val (.ref b72), .unset, .unset, .unset]) rfl (lenOf pd4 rfl) (rest := []) (stk := [(.ref b72)]) rfl (Nat.le_of_ble_eq_true rfl) (hb hby at_92) (by decide) (by decide) (by decide) (by decide)
  replace N := Fr.app N N10
  have lt10 : b72 < T9.heap.size := E_b72.lt
  replace V_b11 := V_b11.keep K10 nin0
  replace E_b72 := E_b72.keep K10
  replace F_b72_type := F_b72_type.keep K10 nin0
  replace F_b72_flags := F_b72_flags.keep K10 nin0
  replace F_b72_callId := F_b72_callId.keep K10 nin0
  replace F_b72_body := F_b72_body.keep K10 nin0
  replace F_b72_authLength := F_b72_authLength.keep K10 nin0
  obtain ⟨b92, zz10, rfl, V_b92⟩ := Q10
  have o_b72_b92 : b72 < b92 := by omega
  replace K := K.trans K10 all0
  refine own_go st10 ?_
  show own_WP p e below _ T10 (mkF m 95 #[.val (.long x0), .second, .val (.int x2), .val (.int x3), .val (.int x4), .val (.int x5), .val (.int x6), .val (.ref b11), .val (.ref b72), .unset, .unset, .unset] [(.ref b92)])
  refine own_go (fun _ => XS.astore X10.here hx rfl (hb hby at_95) rfl rfl (l' := #[.val (.long x0), .second, .val (.int x2), .val (.int x3), .val (.int x4), .val (.int x5), .val (.int x6), .val (.ref b11), .val (.ref b72), .val (.ref b92), .unset, .unset]) rfl) ?_
  show own_WP p e below _ T10 (mkF m 97 #[.val (.long x0), .second, .val (.int x2), .val (.int x3), .val (.int x4), .val (.int x5), .val (.int x6), .val (.ref b11), .val (.ref b72), .val (.ref b92), .unset, .unset] [])
  refine own_go (fun _ => XS.aload X10.here hx rfl (hb hby at_97) rfl rfl) ?_
  show own_WP p e below _ T10 (mkF m 99 #[.val (.long x0), .second, .val (.int x2), .val (.int x3), .val (.int x4), .val (.int x5), .val (.int x6), .val (.ref b11), .val (.ref b72), .val (.ref b92), .unset, .unset] [(.ref b92)])
  refine own_go (fun _ => XS.ifnullNo X10.here hx rfl (hb hby at_99) rfl) ?_
  show own_WP p e below _ T10 (mkF m 102 #[.val (.long x0), .second, .val (.int x2), .val (.int x3), .val (.int x4), .val (.int x5), .val (.int x6), .val (.ref b11), .val (.ref b72), .val (.ref b92), .unset, .unset] [])
  refine own_go (fun _ => XS.aload X10.here hx rfl (hb hby at_102) rfl rfl) ?_
  show own_WP p e below _ T10 (mkF m 104 #[.val (.long x0), .second, .val (.int x2), .val (.int x3), .val (.int x4), .val (.int x5), .val (.int x6), .val (.ref b11), .val (.ref b72), .val (.ref b92), .unset, .unset] [(.ref b92)])
  refine own_go (fun _ => XS.aload X10.here hx rfl (hb hby at_104) rfl rfl) ?_
  show own_WP p e below _ T10 (mkF m 106 #[.val (.long x0), .second, .val (.int x2), .val (.int x3), .val (.int x4), .val (.int x5), .val (.int x6), .val (.ref b11), .val (.ref b72), .val (.ref b92), .unset, .unset] [(.ref b11), (.ref b92)])
  refine own_go (fun _ => XS.acmpNo (g := (mkF m 106 #[.val (.long x0), .second, .val (.int x2), .val (.int x3), .val (.int x4), .val (.int x5), .val (.int x6), .val (.ref b11), .val (.ref b72), .val (.ref b92), .unset, .unset] [(.ref b11), (.ref b92)])) X10.here hx rfl (a := b92) (b := b11) (rest := []) (hb hby at_106) rfl (own_acEq (by omega))) ?_
  show own_WP p e below _ T10 (mkF m 109 #[.val (.long x0), .second, .val (.int x2), .val (.int x3), .val (.int x4), .val (.int x5), .val (.int x6), .val (.ref b11), .val (.ref b72), .val (.ref b92), .unset, .unset] [])
  refine own_go (fun _ => XS.aload X10.here hx rfl (hb hby at_109) rfl rfl) ?_
  show own_WP p e below _ T10 (mkF m 111 #[.val (.long x0), .second, .val (.int x2), .val (.int x3), .val (.int x4), .val (.int x5), .val (.int x6), .val (.ref b11), .val (.ref b72), .val (.ref b92), .unset, .unset] [(.ref b92)])
  refine own_go (own_lenI X10 C (rfl : T10.heap = T10.heap) V_b92 (hb hby at_111)) ?_
  show own_WP p e below _ T10 (mkF m 112 #[.val (.long x0), .second, .val (.int x2), .val (.int x3), .val (.int x4), .val (.int x5), .val (.int x6), .val (.ref b11), .val (.ref b72), .val (.ref b92), .unset, .unset] [(.int (Int32.ofNat rr10.length))])
  refine own_go (fun _ => XS.iload X10.here hx rfl (hb hby at_112) rfl) ?_
  show own_WP p e below _ T10 (mkF m 114 #[.val (.long x0), .second, .val (.int x2), .val (.int x3), .val (.int x4), .val (.int x5), .val (.int x6), .val (.ref b11), .val (.ref b72), .val (.ref b92), .unset, .unset] [(.int x6), (.int (Int32.ofNat rr10.length))])
  by_cases h114 : (Int32.ofNat rr10.length) = x6
  · replace hv := (if_pos h114).symm.trans hv
    refine own_go (fun _ => XS.icmpYes X10.here hx rfl (pc0 := 114) (pc' := 119) rfl (hb hby at_114) rfl (XT.ii_eq_t h114) (by decide) (by decide)) ?_
    show own_WP p e below _ T10 (mkF m 119 #[.val (.long x0), .second, .val (.int x2), .val (.int x3), .val (.int x4), .val (.int x5), .val (.int x6), .val (.ref b11), .val (.ref b72), .val (.ref b92), .unset, .unset] [])
    refine own_go (fun _ => XS.aload X10.here hx rfl (hb hby at_119) rfl rfl) ?_
    show own_WP p e below _ T10 (mkF m 121 #[.val (.long x0), .second, .val (.int x2), .val (.int x3), .val (.int x4), .val (.int x5), .val (.int x6), .val (.ref b11), .val (.ref b72), .val (.ref b92), .unset, .unset] [(.ref b92)])
    refine own_go (fun _ => XS.iload X10.here hx rfl (hb hby at_121) rfl) ?_
    show own_WP p e below _ T10 (mkF m 123 #[.val (.long x0), .second, .val (.int x2), .val (.int x3), .val (.int x4), .val (.int x5), .val (.int x6), .val (.ref b11), .val (.ref b72), .val (.ref b92), .unset, .unset] [(.int x6), (.ref b92)])
    refine own_go (fun _ => XS.iconst X10.here hx rfl (hb hby at_123)) ?_
    show own_WP p e below _ T10 (mkF m 124 #[.val (.long x0), .second, .val (.int x2), .val (.int x3), .val (.int x4), .val (.int x5), .val (.int x6), .val (.ref b11), .val (.ref b72), .val (.ref b92), .unset, .unset] [(.int (0 : Int32)), (.int x6), (.ref b92)])
    refine own_go (fun _ => XS.lloadN X10.here hx rfl (hb hby at_124) rfl) ?_
    show own_WP p e below _ T10 (mkF m 125 #[.val (.long x0), .second, .val (.int x2), .val (.int x3), .val (.int x4), .val (.int x5), .val (.int x6), .val (.ref b11), .val (.ref b72), .val (.ref b92), .unset, .unset] [(.long x0), (.int (0 : Int32)), (.int x6), (.ref b92)])
    obtain ⟨rr11, hf11, hv⟩ := own_bind hv
    obtain ⟨T11, v11, L11, X11, ⟨N11, K11, Q11⟩, st11⟩ := own_callS X10 C (argsL := [(.ref b92), (.int x6), (.int (0 : Int32)), (.long x0)]) (rm9 l Z a0 hw n0 T10.heap (by have q := K.1; omega) (by omega) V_b92 x6 (0 : Int32) x0 rr11 hf11) (hw _ (List.mem_of_getElem? (i := 49) rfl)) (hw _ (List.mem_of_getElem? (i := 50) rfl)) (hw _ (List.mem_of_getElem? (i := 51) rfl)) (hw _ (List.mem_of_getElem? (i := 52) rfl)) (by decide) (rfl : T10.heap = T10.heap) (W := 0) (pc := 125) (Ls := #[.val (.long x0), .second, .val (.int x2), .val (.int x3), .val (.int x4), .val (.int x5), .val (.int x6), .val (.ref b11), .val (.ref b72), .val (.ref b92), .unset, .unset]) rfl (lenOf pd9 rfl) (rest := []) (stk := [(.long x0), (.int (0 : Int32)), (.int x6), (.ref b92)]) rfl (Nat.le_of_ble_eq_true rfl) (hb hby at_125) (by decide) (by decide) (by decide) (by decide)
    replace N := Fr.app N N11
    replace V_b11 := V_b11.keep K11 nin0
    replace E_b72 := E_b72.keep K11
    replace F_b72_type := F_b72_type.keep K11 nin0
    replace F_b72_flags := F_b72_flags.keep K11 nin0
    replace F_b72_callId := F_b72_callId.keep K11 nin0
    replace F_b72_body := F_b72_body.keep K11 nin0
    replace F_b72_authLength := F_b72_authLength.keep K11 nin0
    replace V_b92 := V_b92.keep K11 nin0
    obtain ⟨rfl⟩ := Q11
    replace K := K.trans K11 all0
    refine own_go st11 ?_
    show own_WP p e below _ T11 (mkF m 128 #[.val (.long x0), .second, .val (.int x2), .val (.int x3), .val (.int x4), .val (.int x5), .val (.int x6), .val (.ref b11), .val (.ref b72), .val (.ref b92), .unset, .unset] [(.int rr11)])
    by_cases h128 : rr11 = (0 : Int32)
    · replace hv := (if_pos h128).symm.trans hv
      refine own_go (fun _ => XS.ifYes X11.here hx rfl (pc0 := 128) (pc' := 195) rfl (hb hby at_128) rfl (XT.i0_eq_t h128) (by decide) (by decide)) ?_
      exact b0_195 hw C Z0 rr hP X11 (rfl : T11.heap = T11.heap) N K o_b11_b72 o_b72_b92 g_b11 z_b11 V_b11 E_b72 F_b72_type F_b72_flags F_b72_callId F_b72_body F_b72_authLength V_b92 x0 x2 x3 x4 x5 x6 (.val (.ref b72)) (One.val rfl) hv
    · replace hv := (if_neg h128).symm.trans hv
      refine own_go (fun _ => XS.ifNo X11.here hx rfl (hb hby at_128) rfl (XT.i0_eq_f h128)) ?_
      show own_WP p e below _ T11 (mkF m 131 #[.val (.long x0), .second, .val (.int x2), .val (.int x3), .val (.int x4), .val (.int x5), .val (.int x6), .val (.ref b11), .val (.ref b72), .val (.ref b92), .unset, .unset] [])
      refine own_go (fun _ => XS.aload X11.here hx rfl (hb hby at_131) rfl rfl) ?_
      show own_WP p e below _ T11 (mkF m 133 #[.val (.long x0), .second, .val (.int x2), .val (.int x3), .val (.int x4), .val (.int x5), .val (.int x6), .val (.ref b11), .val (.ref b72), .val (.ref b92), .unset, .unset] [(.ref b92)])
      refine own_go (fun _ => XS.iload X11.here hx rfl (hb hby at_133) rfl) ?_
      show own_WP p e below _ T11 (mkF m 135 #[.val (.long x0), .second, .val (.int x2), .val (.int x3), .val (.int x4), .val (.int x5), .val (.int x6), .val (.ref b11), .val (.ref b72), .val (.ref b92), .unset, .unset] [(.int x6), (.ref b92)])
      refine own_go (fun _ => XS.iconst X11.here hx rfl (hb hby at_135)) ?_
      show own_WP p e below _ T11 (mkF m 136 #[.val (.long x0), .second, .val (.int x2), .val (.int x3), .val (.int x4), .val (.int x5), .val (.int x6), .val (.ref b11), .val (.ref b72), .val (.ref b92), .unset, .unset] [(.int (1 : Int32)), (.int x6), (.ref b92)])
      refine own_go (fun _ => XS.lloadN X11.here hx rfl (hb hby at_136) rfl) ?_
      show own_WP p e below _ T11 (mkF m 137 #[.val (.long x0), .second, .val (.int x2), .val (.int x3), .val (.int x4), .val (.int x5), .val (.int x6), .val (.ref b11), .val (.ref b72), .val (.ref b92), .unset, .unset] [(.long x0), (.int (1 : Int32)), (.int x6), (.ref b92)])
      obtain ⟨rr15, hf15, hv⟩ := own_bind hv
      obtain ⟨T15, v15, L15, X15, ⟨N15, K15, Q15⟩, st15⟩ := own_callS X11 C (argsL := [(.ref b92), (.int x6), (.int (1 : Int32)), (.long x0)]) (rm9 l Z a0 hw n0 T11.heap (by have q := K.1; omega) (by omega) V_b92 x6 (1 : Int32) x0 rr15 hf15) (hw _ (List.mem_of_getElem? (i := 49) rfl)) (hw _ (List.mem_of_getElem? (i := 50) rfl)) (hw _ (List.mem_of_getElem? (i := 51) rfl)) (hw _ (List.mem_of_getElem? (i := 52) rfl)) (by decide) (rfl : T11.heap = T11.heap) (W := 0) (pc := 137) (Ls := #[.val (.long x0), .second, .val (.int x2), .val (.int x3), .val (.int x4), .val (.int x5), .val (.int x6), .val (.ref b11), .val (.ref b72), .val (.ref b92), .unset, .unset]) rfl (lenOf pd9 rfl) (rest := []) (stk := [(.long x0), (.int (1 : Int32)), (.int x6), (.ref b92)]) rfl (Nat.le_of_ble_eq_true rfl) (hb hby at_137) (by decide) (by decide) (by decide) (by decide)
      replace N := Fr.app N N15
      replace V_b11 := V_b11.keep K15 nin0
      replace E_b72 := E_b72.keep K15
      replace F_b72_type := F_b72_type.keep K15 nin0
      replace F_b72_flags := F_b72_flags.keep K15 nin0
      replace F_b72_callId := F_b72_callId.keep K15 nin0
      replace F_b72_body := F_b72_body.keep K15 nin0
      replace F_b72_authLength := F_b72_authLength.keep K15 nin0
      replace V_b92 := V_b92.keep K15 nin0
      obtain ⟨rfl⟩ := Q15
      replace K := K.trans K15 all0
      refine own_go st15 ?_
      show own_WP p e below _ T15 (mkF m 140 #[.val (.long x0), .second, .val (.int x2), .val (.int x3), .val (.int x4), .val (.int x5), .val (.int x6), .val (.ref b11), .val (.ref b72), .val (.ref b92), .unset, .unset] [(.int rr15)])
      by_cases h140 : rr15 = (0 : Int32)
      · replace hv := (if_pos h140).symm.trans hv
        refine own_go (fun _ => XS.ifYes X15.here hx rfl (pc0 := 140) (pc' := 195) rfl (hb hby at_140) rfl (XT.i0_eq_t h140) (by decide) (by decide)) ?_
        exact b0_195 hw C Z0 rr hP X15 (rfl : T15.heap = T15.heap) N K o_b11_b72 o_b72_b92 g_b11 z_b11 V_b11 E_b72 F_b72_type F_b72_flags F_b72_callId F_b72_body F_b72_authLength V_b92 x0 x2 x3 x4 x5 x6 (.val (.ref b72)) (One.val rfl) hv
      · replace hv := (if_neg h140).symm.trans hv
        refine own_go (fun _ => XS.ifNo X15.here hx rfl (hb hby at_140) rfl (XT.i0_eq_f h140)) ?_
        show own_WP p e below _ T15 (mkF m 143 #[.val (.long x0), .second, .val (.int x2), .val (.int x3), .val (.int x4), .val (.int x5), .val (.int x6), .val (.ref b11), .val (.ref b72), .val (.ref b92), .unset, .unset] [])
        refine own_go (fun _ => XS.aload X15.here hx rfl (hb hby at_143) rfl rfl) ?_
        show own_WP p e below _ T15 (mkF m 145 #[.val (.long x0), .second, .val (.int x2), .val (.int x3), .val (.int x4), .val (.int x5), .val (.int x6), .val (.ref b11), .val (.ref b72), .val (.ref b92), .unset, .unset] [(.ref b92)])
        refine own_go (fun _ => XS.iload X15.here hx rfl (hb hby at_145) rfl) ?_
        show own_WP p e below _ T15 (mkF m 147 #[.val (.long x0), .second, .val (.int x2), .val (.int x3), .val (.int x4), .val (.int x5), .val (.int x6), .val (.ref b11), .val (.ref b72), .val (.ref b92), .unset, .unset] [(.int x6), (.ref b92)])
        refine own_go (fun _ => XS.iconst X15.here hx rfl (hb hby at_147)) ?_
        show own_WP p e below _ T15 (mkF m 148 #[.val (.long x0), .second, .val (.int x2), .val (.int x3), .val (.int x4), .val (.int x5), .val (.int x6), .val (.ref b11), .val (.ref b72), .val (.ref b92), .unset, .unset] [(.int (2 : Int32)), (.int x6), (.ref b92)])
        refine own_go (fun _ => XS.lloadN X15.here hx rfl (hb hby at_148) rfl) ?_
        show own_WP p e below _ T15 (mkF m 149 #[.val (.long x0), .second, .val (.int x2), .val (.int x3), .val (.int x4), .val (.int x5), .val (.int x6), .val (.ref b11), .val (.ref b72), .val (.ref b92), .unset, .unset] [(.long x0), (.int (2 : Int32)), (.int x6), (.ref b92)])
        obtain ⟨rr16, hf16, hv⟩ := own_bind hv
        obtain ⟨T16, v16, L16, X16, ⟨N16, K16, Q16⟩, st16⟩ := own_callS X15 C (argsL := [(.ref b92), (.int x6), (.int (2 : Int32)), (.long x0)]) (rm9 l Z a0 hw n0 T15.heap (by have q := K.1; omega) (by omega) V_b92 x6 (2 : Int32) x0 rr16 hf16) (hw _ (List.mem_of_getElem? (i := 49) rfl)) (hw _ (List.mem_of_getElem? (i := 50) rfl)) (hw _ (List.mem_of_getElem? (i := 51) rfl)) (hw _ (List.mem_of_getElem? (i := 52) rfl)) (by decide) (rfl : T15.heap = T15.heap) (W := 0) (pc := 149) (Ls := #[.val (.long x0), .second, .val (.int x2), .val (.int x3), .val (.int x4), .val (.int x5), .val (.int x6), .val (.ref b11), .val (.ref b72), .val (.ref b92), .unset, .unset]) rfl (lenOf pd9 rfl) (rest := []) (stk := [(.long x0), (.int (2 : Int32)), (.int x6), (.ref b92)]) rfl (Nat.le_of_ble_eq_true rfl) (hb hby at_149) (by decide) (by decide) (by decide) (by decide)
        replace N := Fr.app N N16
        replace V_b11 := V_b11.keep K16 nin0
        replace E_b72 := E_b72.keep K16
        replace F_b72_type := F_b72_type.keep K16 nin0
        replace F_b72_flags := F_b72_flags.keep K16 nin0
        replace F_b72_callId := F_b72_callId.keep K16 nin0
        replace F_b72_body := F_b72_body.keep K16 nin0
        replace F_b72_authLength := F_b72_authLength.keep K16 nin0
        replace V_b92 := V_b92.keep K16 nin0
        obtain ⟨rfl⟩ := Q16
        replace K := K.trans K16 all0
        refine own_go st16 ?_
        show own_WP p e below _ T16 (mkF m 152 #[.val (.long x0), .second, .val (.int x2), .val (.int x3), .val (.int x4), .val (.int x5), .val (.int x6), .val (.ref b11), .val (.ref b72), .val (.ref b92), .unset, .unset] [(.int rr16)])
        by_cases h152 : rr16 = (0 : Int32)
        · replace hv := (if_pos h152).symm.trans hv
          refine own_go (fun _ => XS.ifYes X16.here hx rfl (pc0 := 152) (pc' := 195) rfl (hb hby at_152) rfl (XT.i0_eq_t h152) (by decide) (by decide)) ?_
          exact b0_195 hw C Z0 rr hP X16 (rfl : T16.heap = T16.heap) N K o_b11_b72 o_b72_b92 g_b11 z_b11 V_b11 E_b72 F_b72_type F_b72_flags F_b72_callId F_b72_body F_b72_authLength V_b92 x0 x2 x3 x4 x5 x6 (.val (.ref b72)) (One.val rfl) hv
        · replace hv := (if_neg h152).symm.trans hv
          refine own_go (fun _ => XS.ifNo X16.here hx rfl (hb hby at_152) rfl (XT.i0_eq_f h152)) ?_
          show own_WP p e below _ T16 (mkF m 155 #[.val (.long x0), .second, .val (.int x2), .val (.int x3), .val (.int x4), .val (.int x5), .val (.int x6), .val (.ref b11), .val (.ref b72), .val (.ref b92), .unset, .unset] [])
          refine own_go (fun _ => XS.aload X16.here hx rfl (hb hby at_155) rfl rfl) ?_
          show own_WP p e below _ T16 (mkF m 157 #[.val (.long x0), .second, .val (.int x2), .val (.int x3), .val (.int x4), .val (.int x5), .val (.int x6), .val (.ref b11), .val (.ref b72), .val (.ref b92), .unset, .unset] [(.ref b92)])
          refine own_go (fun _ => XS.iload X16.here hx rfl (hb hby at_157) rfl) ?_
          show own_WP p e below _ T16 (mkF m 159 #[.val (.long x0), .second, .val (.int x2), .val (.int x3), .val (.int x4), .val (.int x5), .val (.int x6), .val (.ref b11), .val (.ref b72), .val (.ref b92), .unset, .unset] [(.int x6), (.ref b92)])
          refine own_go (fun _ => XS.iconst X16.here hx rfl (hb hby at_159)) ?_
          show own_WP p e below _ T16 (mkF m 160 #[.val (.long x0), .second, .val (.int x2), .val (.int x3), .val (.int x4), .val (.int x5), .val (.int x6), .val (.ref b11), .val (.ref b72), .val (.ref b92), .unset, .unset] [(.int (3 : Int32)), (.int x6), (.ref b92)])
          refine own_go (fun _ => XS.lloadN X16.here hx rfl (hb hby at_160) rfl) ?_
          show own_WP p e below _ T16 (mkF m 161 #[.val (.long x0), .second, .val (.int x2), .val (.int x3), .val (.int x4), .val (.int x5), .val (.int x6), .val (.ref b11), .val (.ref b72), .val (.ref b92), .unset, .unset] [(.long x0), (.int (3 : Int32)), (.int x6), (.ref b92)])
          obtain ⟨rr17, hf17, hv⟩ := own_bind hv
          obtain ⟨T17, v17, L17, X17, ⟨N17, K17, Q17⟩, st17⟩ := own_callS X16 C (argsL := [(.ref b92), (.int x6), (.int (3 : Int32)), (.long x0)]) (rm9 l Z a0 hw n0 T16.heap (by have q := K.1; omega) (by omega) V_b92 x6 (3 : Int32) x0 rr17 hf17) (hw _ (List.mem_of_getElem? (i := 49) rfl)) (hw _ (List.mem_of_getElem? (i := 50) rfl)) (hw _ (List.mem_of_getElem? (i := 51) rfl)) (hw _ (List.mem_of_getElem? (i := 52) rfl)) (by decide) (rfl : T16.heap = T16.heap) (W := 0) (pc := 161) (Ls := #[.val (.long x0), .second, .val (.int x2), .val (.int x3), .val (.int x4), .val (.int x5), .val (.int x6), .val (.ref b11), .val (.ref b72), .val (.ref b92), .unset, .unset]) rfl (lenOf pd9 rfl) (rest := []) (stk := [(.long x0), (.int (3 : Int32)), (.int x6), (.ref b92)]) rfl (Nat.le_of_ble_eq_true rfl) (hb hby at_161) (by decide) (by decide) (by decide) (by decide)
          replace N := Fr.app N N17
          replace V_b11 := V_b11.keep K17 nin0
          replace E_b72 := E_b72.keep K17
          replace F_b72_type := F_b72_type.keep K17 nin0
          replace F_b72_flags := F_b72_flags.keep K17 nin0
          replace F_b72_callId := F_b72_callId.keep K17 nin0
          replace F_b72_body := F_b72_body.keep K17 nin0
          replace F_b72_authLength := F_b72_authLength.keep K17 nin0
          replace V_b92 := V_b92.keep K17 nin0
          obtain ⟨rfl⟩ := Q17
          replace K := K.trans K17 all0
          refine own_go st17 ?_
          show own_WP p e below _ T17 (mkF m 164 #[.val (.long x0), .second, .val (.int x2), .val (.int x3), .val (.int x4), .val (.int x5), .val (.int x6), .val (.ref b11), .val (.ref b72), .val (.ref b92), .unset, .unset] [(.int rr17)])
          by_cases h164 : rr17 = (0 : Int32)
          · replace hv := (if_pos h164).symm.trans hv
            refine own_go (fun _ => XS.ifYes X17.here hx rfl (pc0 := 164) (pc' := 195) rfl (hb hby at_164) rfl (XT.i0_eq_t h164) (by decide) (by decide)) ?_
            exact b0_195 hw C Z0 rr hP X17 (rfl : T17.heap = T17.heap) N K o_b11_b72 o_b72_b92 g_b11 z_b11 V_b11 E_b72 F_b72_type F_b72_flags F_b72_callId F_b72_body F_b72_authLength V_b92 x0 x2 x3 x4 x5 x6 (.val (.ref b72)) (One.val rfl) hv
          · replace hv := (if_neg h164).symm.trans hv
            refine own_go (fun _ => XS.ifNo X17.here hx rfl (hb hby at_164) rfl (XT.i0_eq_f h164)) ?_
            show own_WP p e below _ T17 (mkF m 167 #[.val (.long x0), .second, .val (.int x2), .val (.int x3), .val (.int x4), .val (.int x5), .val (.int x6), .val (.ref b11), .val (.ref b72), .val (.ref b92), .unset, .unset] [])
            refine own_go (fun _ => XS.aload X17.here hx rfl (hb hby at_167) rfl rfl) ?_
            show own_WP p e below _ T17 (mkF m 169 #[.val (.long x0), .second, .val (.int x2), .val (.int x3), .val (.int x4), .val (.int x5), .val (.int x6), .val (.ref b11), .val (.ref b72), .val (.ref b92), .unset, .unset] [(.ref b92)])
            refine own_go (fun _ => XS.iload X17.here hx rfl (hb hby at_169) rfl) ?_
            show own_WP p e below _ T17 (mkF m 171 #[.val (.long x0), .second, .val (.int x2), .val (.int x3), .val (.int x4), .val (.int x5), .val (.int x6), .val (.ref b11), .val (.ref b72), .val (.ref b92), .unset, .unset] [(.int x6), (.ref b92)])
            refine own_go (fun _ => XS.iconst X17.here hx rfl (hb hby at_171)) ?_
            show own_WP p e below _ T17 (mkF m 172 #[.val (.long x0), .second, .val (.int x2), .val (.int x3), .val (.int x4), .val (.int x5), .val (.int x6), .val (.ref b11), .val (.ref b72), .val (.ref b92), .unset, .unset] [(.int (4 : Int32)), (.int x6), (.ref b92)])
            refine own_go (fun _ => XS.lloadN X17.here hx rfl (hb hby at_172) rfl) ?_
            show own_WP p e below _ T17 (mkF m 173 #[.val (.long x0), .second, .val (.int x2), .val (.int x3), .val (.int x4), .val (.int x5), .val (.int x6), .val (.ref b11), .val (.ref b72), .val (.ref b92), .unset, .unset] [(.long x0), (.int (4 : Int32)), (.int x6), (.ref b92)])
            obtain ⟨rr18, hf18, hv⟩ := own_bind hv
            obtain ⟨T18, v18, L18, X18, ⟨N18, K18, Q18⟩, st18⟩ := own_callS X17 C (argsL := [(.ref b92), (.int x6), (.int (4 : Int32)), (.long x0)]) (rm9 l Z a0 hw n0 T17.heap (by have q := K.1; omega) (by omega) V_b92 x6 (4 : Int32) x0 rr18 hf18) (hw _ (List.mem_of_getElem? (i := 49) rfl)) (hw _ (List.mem_of_getElem? (i := 50) rfl)) (hw _ (List.mem_of_getElem? (i := 51) rfl)) (hw _ (List.mem_of_getElem? (i := 52) rfl)) (by decide) (rfl : T17.heap = T17.heap) (W := 0) (pc := 173) (Ls := #[.val (.long x0), .second, .val (.int x2), .val (.int x3), .val (.int x4), .val (.int x5), .val (.int x6), .val (.ref b11), .val (.ref b72), .val (.ref b92), .unset, .unset]) rfl (lenOf pd9 rfl) (rest := []) (stk := [(.long x0), (.int (4 : Int32)), (.int x6), (.ref b92)]) rfl (Nat.le_of_ble_eq_true rfl) (hb hby at_173) (by decide) (by decide) (by decide) (by decide)
            replace N := Fr.app N N18
            replace V_b11 := V_b11.keep K18 nin0
            replace E_b72 := E_b72.keep K18
            replace F_b72_type := F_b72_type.keep K18 nin0
            replace F_b72_flags := F_b72_flags.keep K18 nin0
            replace F_b72_callId := F_b72_callId.keep K18 nin0
            replace F_b72_body := F_b72_body.keep K18 nin0
            replace F_b72_authLength := F_b72_authLength.keep K18 nin0
            replace V_b92 := V_b92.keep K18 nin0
            obtain ⟨rfl⟩ := Q18
            replace K := K.trans K18 all0
            refine own_go st18 ?_
            show own_WP p e below _ T18 (mkF m 176 #[.val (.long x0), .second, .val (.int x2), .val (.int x3), .val (.int x4), .val (.int x5), .val (.int x6), .val (.ref b11), .val (.ref b72), .val (.ref b92), .unset, .unset] [(.int rr18)])
            by_cases h176 : rr18 = (0 : Int32)
            · replace hv := (if_pos h176).symm.trans hv
              refine own_go (fun _ => XS.ifYes X18.here hx rfl (pc0 := 176) (pc' := 195) rfl (hb hby at_176) rfl (XT.i0_eq_t h176) (by decide) (by decide)) ?_
              exact b0_195 hw C Z0 rr hP X18 (rfl : T18.heap = T18.heap) N K o_b11_b72 o_b72_b92 g_b11 z_b11 V_b11 E_b72 F_b72_type F_b72_flags F_b72_callId F_b72_body F_b72_authLength V_b92 x0 x2 x3 x4 x5 x6 (.val (.ref b72)) (One.val rfl) hv
            · replace hv := (if_neg h176).symm.trans hv
              refine own_go (fun _ => XS.ifNo X18.here hx rfl (hb hby at_176) rfl (XT.i0_eq_f h176)) ?_
              show own_WP p e below _ T18 (mkF m 179 #[.val (.long x0), .second, .val (.int x2), .val (.int x3), .val (.int x4), .val (.int x5), .val (.int x6), .val (.ref b11), .val (.ref b72), .val (.ref b92), .unset, .unset] [])
              refine own_go (fun _ => XS.aload X18.here hx rfl (hb hby at_179) rfl rfl) ?_
              show own_WP p e below _ T18 (mkF m 181 #[.val (.long x0), .second, .val (.int x2), .val (.int x3), .val (.int x4), .val (.int x5), .val (.int x6), .val (.ref b11), .val (.ref b72), .val (.ref b92), .unset, .unset] [(.ref b92)])
              refine own_go (fun _ => XS.iload X18.here hx rfl (hb hby at_181) rfl) ?_
              show own_WP p e below _ T18 (mkF m 183 #[.val (.long x0), .second, .val (.int x2), .val (.int x3), .val (.int x4), .val (.int x5), .val (.int x6), .val (.ref b11), .val (.ref b72), .val (.ref b92), .unset, .unset] [(.int x6), (.ref b92)])
              refine own_go (fun _ => XS.iconst X18.here hx rfl (hb hby at_183)) ?_
              show own_WP p e below _ T18 (mkF m 184 #[.val (.long x0), .second, .val (.int x2), .val (.int x3), .val (.int x4), .val (.int x5), .val (.int x6), .val (.ref b11), .val (.ref b72), .val (.ref b92), .unset, .unset] [(.int (5 : Int32)), (.int x6), (.ref b92)])
              refine own_go (fun _ => XS.lloadN X18.here hx rfl (hb hby at_184) rfl) ?_
              show own_WP p e below _ T18 (mkF m 185 #[.val (.long x0), .second, .val (.int x2), .val (.int x3), .val (.int x4), .val (.int x5), .val (.int x6), .val (.ref b11), .val (.ref b72), .val (.ref b92), .unset, .unset] [(.long x0), (.int (5 : Int32)), (.int x6), (.ref b92)])
              obtain ⟨rr19, hf19, hv⟩ := own_bind hv
              obtain ⟨T19, v19, L19, X19, ⟨N19, K19, Q19⟩, st19⟩ := own_callS X18 C (argsL := [(.ref b92), (.int x6), (.int (5 : Int32)), (.long x0)]) (rm9 l Z a0 hw n0 T18.heap (by have q := K.1; omega) (by omega) V_b92 x6 (5 : Int32) x0 rr19 hf19) (hw _ (List.mem_of_getElem? (i := 49) rfl)) (hw _ (List.mem_of_getElem? (i := 50) rfl)) (hw _ (List.mem_of_getElem? (i := 51) rfl)) (hw _ (List.mem_of_getElem? (i := 52) rfl)) (by decide) (rfl : T18.heap = T18.heap) (W := 0) (pc := 185) (Ls := #[.val (.long x0), .second, .val (.int x2), .val (.int x3), .val (.int x4), .val (.int x5), .val (.int x6), .val (.ref b11), .val (.ref b72), .val (.ref b92), .unset, .unset]) rfl (lenOf pd9 rfl) (rest := []) (stk := [(.long x0), (.int (5 : Int32)), (.int x6), (.ref b92)]) rfl (Nat.le_of_ble_eq_true rfl) (hb hby at_185) (by decide) (by decide) (by decide) (by decide)
              replace N := Fr.app N N19
              replace V_b11 := V_b11.keep K19 nin0
              replace E_b72 := E_b72.keep K19
              replace F_b72_type := F_b72_type.keep K19 nin0
              replace F_b72_flags := F_b72_flags.keep K19 nin0
              replace F_b72_callId := F_b72_callId.keep K19 nin0
              replace F_b72_body := F_b72_body.keep K19 nin0
              replace F_b72_authLength := F_b72_authLength.keep K19 nin0
              replace V_b92 := V_b92.keep K19 nin0
              obtain ⟨rfl⟩ := Q19
              replace K := K.trans K19 all0
              refine own_go st19 ?_
              show own_WP p e below _ T19 (mkF m 188 #[.val (.long x0), .second, .val (.int x2), .val (.int x3), .val (.int x4), .val (.int x5), .val (.int x6), .val (.ref b11), .val (.ref b72), .val (.ref b92), .unset, .unset] [(.int rr19)])
              by_cases h188 : rr19 = (0 : Int32)
              · replace hv := (if_pos h188).symm.trans hv
                refine own_go (fun _ => XS.ifYes X19.here hx rfl (pc0 := 188) (pc' := 195) rfl (hb hby at_188) rfl (XT.i0_eq_t h188) (by decide) (by decide)) ?_
                exact b0_195 hw C Z0 rr hP X19 (rfl : T19.heap = T19.heap) N K o_b11_b72 o_b72_b92 g_b11 z_b11 V_b11 E_b72 F_b72_type F_b72_flags F_b72_callId F_b72_body F_b72_authLength V_b92 x0 x2 x3 x4 x5 x6 (.val (.ref b72)) (One.val rfl) hv
              · replace hv := (if_neg h188).symm.trans hv
                refine own_go (fun _ => XS.ifNo X19.here hx rfl (hb hby at_188) rfl (XT.i0_eq_f h188)) ?_
                show own_WP p e below _ T19 (mkF m 191 #[.val (.long x0), .second, .val (.int x2), .val (.int x3), .val (.int x4), .val (.int x5), .val (.int x6), .val (.ref b11), .val (.ref b72), .val (.ref b92), .unset, .unset] [])
                refine own_go (fun _ => XS.iconst X19.here hx rfl (hb hby at_191)) ?_
                show own_WP p e below _ T19 (mkF m 192 #[.val (.long x0), .second, .val (.int x2), .val (.int x3), .val (.int x4), .val (.int x5), .val (.int x6), .val (.ref b11), .val (.ref b72), .val (.ref b92), .unset, .unset] [(.int (1 : Int32))])
                refine own_go (fun _ => XS.goto X19.here hx rfl (pc0 := 192) (pc' := 196) rfl (hb hby at_192) (by decide) (by decide)) ?_
                exact b0_196 hw C Z0 rr hP X19 (rfl : T19.heap = T19.heap) N K o_b11_b72 o_b72_b92 g_b11 z_b11 V_b11 E_b72 F_b72_type F_b72_flags F_b72_callId F_b72_body F_b72_authLength V_b92 x0 x2 x3 x4 x5 x6 (.val (.ref b72)) (One.val rfl) (1 : Int32) hv
  · replace hv := (if_neg h114).symm.trans hv
    refine own_go (fun _ => XS.icmpNo X10.here hx rfl (hb hby at_114) rfl (XT.ii_eq_f h114)) ?_
    show own_WP p e below _ T10 (mkF m 117 #[.val (.long x0), .second, .val (.int x2), .val (.int x3), .val (.int x4), .val (.int x5), .val (.int x6), .val (.ref b11), .val (.ref b72), .val (.ref b92), .unset, .unset] [])
    refine own_go (fun _ => XS.iconst X10.here hx rfl (hb hby at_117)) ?_
    show own_WP p e below _ T10 (mkF m 118 #[.val (.long x0), .second, .val (.int x2), .val (.int x3), .val (.int x4), .val (.int x5), .val (.int x6), .val (.ref b11), .val (.ref b72), .val (.ref b92), .unset, .unset] [(.int (0 : Int32))])
    obtain rfl := Option.some.inj hv
    exact own_retN X10 C (by simp) (hb hby at_118) (hP _ _ _ N K rfl) (by decide) (by decide)
def f0_0 (x0 : Int64) (x2 : Int32) (x3 : Int32) (x4 : Int32) (x5 : Int32) : Option (Int32) := (f0_72 [(((x0.toInt32).toInt8.toInt32).toInt8.toInt32), ((((XT.ushrL x0 (8 : Int32)).toInt32).toInt8.toInt32).toInt8.toInt32), ((((XT.ushrL x0 (16 : Int32)).toInt32).toInt8.toInt32).toInt8.toInt32), ((((XT.ushrL x0 (24 : Int32)).toInt32).toInt8.toInt32).toInt8.toInt32), ((((XT.ushrL x0 (32 : Int32)).toInt32).toInt8.toInt32).toInt8.toInt32), ((((XT.ushrL x0 (40 : Int32)).toInt32).toInt8.toInt32).toInt8.toInt32)] x0 x3 x4 x5 ((x2 &&& (2147483647 : Int32)) % (7 : Int32)))
set_option maxRecDepth 65536 in
set_option maxHeartbeats 40000000 in
theorem b0_0 {p : Program} {l : Launch} {e : Env} {s : State} {m : MethodId} {args : Array Value} {below : List Frame} {meth : Method} {c : Code} {Z : State} {a0 : Array Value} {h0 : Heap} {n0 : Nat} {P : Option Value → Heap → List Loc → Prop} (hw : ∀ d ∈ tables_1, d.before a0 Z = true) (C : own_Ctx p s m meth c Z x code maxLocals ret) (Z0 : n0 ≤ h0.size)   (rr : Int32) (hP : ∀ v h L, Fr n0 L → Keep h0 h [] → E0 Z h0  rr v h → P v h L)
    {T : State} {locs : List Loc} {h : Heap} (X : Stand p l e room_1 s m args below meth c T locs 0 0) (e0 : T.heap = h) (N : Fr n0 locs) (K : Keep h0 h []) (x0 : Int64) (x2 : Int32) (x3 : Int32) (x4 : Int32) (x5 : Int32) (hv : f0_0 x0 x2 x3 x4 x5 = some rr) :
    own_WP p e below (own_Q s P room_1.cells room_1.slots) T (mkF m 0 #[.val (.long x0), .second, .val (.int x2), .val (.int x3), .val (.int x4), .val (.int x5), .unset, .unset, .unset, .unset, .unset, .unset] []) := by
  obtain ⟨hx, hZ, hby, hml, hown, hnm, hret, hlk⟩ := id C
  replace hown : s.vm.findClass "com/example/objwire/objwire/rpc/PduTokenPinLaw" = some m.cls := hown
  unfold f0_0 at hv
  show own_WP p e below _ T (mkF m 0 #[.val (.long x0), .second, .val (.int x2), .val (.int x3), .val (.int x4), .val (.int x5), .unset, .unset, .unset, .unset, .unset, .unset] [])
  refine own_go (fun _ => XS.iloadN X.here hx rfl (hb hby at_0) rfl) ?_
  show own_WP p e below _ T (mkF m 1 #[.val (.long x0), .second, .val (.int x2), .val (.int x3), .val (.int x4), .val (.int x5), .unset, .unset, .unset, .unset, .unset, .unset] [(.int x2)])
  refine own_go (X.ldcInt hx hown (mvT hZ (hw _ (List.mem_of_getElem? (i := 0) rfl))) (g := (mkF m 1 #[.val (.long x0), .second, .val (.int x2), .val (.int x3), .val (.int x4), .val (.int x5), .unset, .unset, .unset, .unset, .unset, .unset] [(.int x2)])) rfl (hb hby at_1)) ?_
  show own_WP p e below _ T (mkF m 3 #[.val (.long x0), .second, .val (.int x2), .val (.int x3), .val (.int x4), .val (.int x5), .unset, .unset, .unset, .unset, .unset, .unset] [(.int (2147483647 : Int32)), (.int x2)])
  refine own_go (fun _ => XS.iand X.here hx rfl (hb hby at_3) rfl) ?_
  show own_WP p e below _ T (mkF m 4 #[.val (.long x0), .second, .val (.int x2), .val (.int x3), .val (.int x4), .val (.int x5), .unset, .unset, .unset, .unset, .unset, .unset] [(.int (x2 &&& (2147483647 : Int32)))])
  refine own_go (fun _ => XS.bipush X.here hx rfl (hb hby at_4)) ?_
  show own_WP p e below _ T (mkF m 6 #[.val (.long x0), .second, .val (.int x2), .val (.int x3), .val (.int x4), .val (.int x5), .unset, .unset, .unset, .unset, .unset, .unset] [(.int (7 : Int32)), (.int (x2 &&& (2147483647 : Int32)))])
  refine own_go (fun _ => iremM X hx rfl (hb hby at_6) rfl (by decide)) ?_
  show own_WP p e below _ T (mkF m 7 #[.val (.long x0), .second, .val (.int x2), .val (.int x3), .val (.int x4), .val (.int x5), .unset, .unset, .unset, .unset, .unset, .unset] [(.int ((x2 &&& (2147483647 : Int32)) % (7 : Int32)))])
  refine own_go (fun _ => XS.istore X.here hx rfl (hb hby at_7) rfl (l' := #[.val (.long x0), .second, .val (.int x2), .val (.int x3), .val (.int x4), .val (.int x5), .val (.int ((x2 &&& (2147483647 : Int32)) % (7 : Int32))), .unset, .unset, .unset, .unset, .unset]) rfl) ?_
  show own_WP p e below _ T (mkF m 9 #[.val (.long x0), .second, .val (.int x2), .val (.int x3), .val (.int x4), .val (.int x5), .val (.int ((x2 &&& (2147483647 : Int32)) % (7 : Int32))), .unset, .unset, .unset, .unset, .unset] [])
  refine own_go (fun _ => XS.bipush X.here hx rfl (hb hby at_9)) ?_
  show own_WP p e below _ T (mkF m 11 #[.val (.long x0), .second, .val (.int x2), .val (.int x3), .val (.int x4), .val (.int x5), .val (.int ((x2 &&& (2147483647 : Int32)) % (7 : Int32))), .unset, .unset, .unset, .unset, .unset] [(.int (6 : Int32))])
  obtain ⟨T1, h1, b11, X1, e1, E1, hb_b11, V_b11, st1⟩ := own_newI X C e0 (aty := .byte) (ty := .byte) rfl rfl rfl (hw _ (List.mem_of_getElem? (i := 1) rfl)) (n := (6 : Int32)) (by decide) (cap := 6) (by decide) (by decide) (by decide) (by decide) (pc := 11) (Ls := #[.val (.long x0), .second, .val (.int x2), .val (.int x3), .val (.int x4), .val (.int x5), .val (.int ((x2 &&& (2147483647 : Int32)) % (7 : Int32))), .unset, .unset, .unset, .unset, .unset]) (rest := []) (hb hby at_11)
  refine own_go st1 ?_
  have g_b11 : n0 ≤ b11 := by have q := K.1; omega
  have z_b11 : h0.size ≤ b11 := by have q := K.1; omega
  replace K := K.ext E1
  replace V_b11 : own_AI Z h1 b11 .byte [0, 0, 0, 0, 0, 0] := V_b11
  show own_WP p e below _ T1 (mkF m 13 #[.val (.long x0), .second, .val (.int x2), .val (.int x3), .val (.int x4), .val (.int x5), .val (.int ((x2 &&& (2147483647 : Int32)) % (7 : Int32))), .unset, .unset, .unset, .unset, .unset] [(.ref b11)])
  refine own_go (fun _ => XS.astore X1.here hx rfl (hb hby at_13) rfl rfl (l' := #[.val (.long x0), .second, .val (.int x2), .val (.int x3), .val (.int x4), .val (.int x5), .val (.int ((x2 &&& (2147483647 : Int32)) % (7 : Int32))), .val (.ref b11), .unset, .unset, .unset, .unset]) rfl) ?_
  show own_WP p e below _ T1 (mkF m 15 #[.val (.long x0), .second, .val (.int x2), .val (.int x3), .val (.int x4), .val (.int x5), .val (.int ((x2 &&& (2147483647 : Int32)) % (7 : Int32))), .val (.ref b11), .unset, .unset, .unset, .unset] [])
  refine own_go (fun _ => XS.aload X1.here hx rfl (hb hby at_15) rfl rfl) ?_
  show own_WP p e below _ T1 (mkF m 17 #[.val (.long x0), .second, .val (.int x2), .val (.int x3), .val (.int x4), .val (.int x5), .val (.int ((x2 &&& (2147483647 : Int32)) % (7 : Int32))), .val (.ref b11), .unset, .unset, .unset, .unset] [(.ref b11)])
  refine own_go (fun _ => XS.iconst X1.here hx rfl (hb hby at_17)) ?_
  show own_WP p e below _ T1 (mkF m 18 #[.val (.long x0), .second, .val (.int x2), .val (.int x3), .val (.int x4), .val (.int x5), .val (.int ((x2 &&& (2147483647 : Int32)) % (7 : Int32))), .val (.ref b11), .unset, .unset, .unset, .unset] [(.int (0 : Int32)), (.ref b11)])
  refine own_go (fun _ => XS.lloadN X1.here hx rfl (hb hby at_18) rfl) ?_
  show own_WP p e below _ T1 (mkF m 19 #[.val (.long x0), .second, .val (.int x2), .val (.int x3), .val (.int x4), .val (.int x5), .val (.int ((x2 &&& (2147483647 : Int32)) % (7 : Int32))), .val (.ref b11), .unset, .unset, .unset, .unset] [(.long x0), (.int (0 : Int32)), (.ref b11)])
  refine own_go (fun _ => XS.l2i X1.here hx rfl (hb hby at_19) rfl) ?_
  show own_WP p e below _ T1 (mkF m 20 #[.val (.long x0), .second, .val (.int x2), .val (.int x3), .val (.int x4), .val (.int x5), .val (.int ((x2 &&& (2147483647 : Int32)) % (7 : Int32))), .val (.ref b11), .unset, .unset, .unset, .unset] [(.int (x0.toInt32)), (.int (0 : Int32)), (.ref b11)])
  refine own_go (fun _ => XS.i2b X1.here hx rfl (hb hby at_20) rfl) ?_
  show own_WP p e below _ T1 (mkF m 21 #[.val (.long x0), .second, .val (.int x2), .val (.int x3), .val (.int x4), .val (.int x5), .val (.int ((x2 &&& (2147483647 : Int32)) % (7 : Int32))), .val (.ref b11), .unset, .unset, .unset, .unset] [(.int ((x0.toInt32).toInt8.toInt32)), (.int (0 : Int32)), (.ref b11)])
  obtain ⟨T2, h2, X2, e2, W2, V'2, st2⟩ := own_bastore X1 C e1 V_b11 (vs' := [(((x0.toInt32).toInt8.toInt32).toInt8.toInt32), 0, 0, 0, 0, 0]) (j := (0 : Int32)) (x := ((x0.toInt32).toInt8.toInt32)) rfl (hb hby at_21)
  refine own_go st2 ?_
  replace V_b11 := V'2
  clear V'2
  replace K := K.wr W2 (Or.inr (by omega))
  replace N := Fr.snoc X2 N (by omega)
  show own_WP p e below _ T2 (mkF m 22 #[.val (.long x0), .second, .val (.int x2), .val (.int x3), .val (.int x4), .val (.int x5), .val (.int ((x2 &&& (2147483647 : Int32)) % (7 : Int32))), .val (.ref b11), .unset, .unset, .unset, .unset] [])
  refine own_go (fun _ => XS.aload X2.here hx rfl (hb hby at_22) rfl rfl) ?_
  show own_WP p e below _ T2 (mkF m 24 #[.val (.long x0), .second, .val (.int x2), .val (.int x3), .val (.int x4), .val (.int x5), .val (.int ((x2 &&& (2147483647 : Int32)) % (7 : Int32))), .val (.ref b11), .unset, .unset, .unset, .unset] [(.ref b11)])
  refine own_go (fun _ => XS.iconst X2.here hx rfl (hb hby at_24)) ?_
  show own_WP p e below _ T2 (mkF m 25 #[.val (.long x0), .second, .val (.int x2), .val (.int x3), .val (.int x4), .val (.int x5), .val (.int ((x2 &&& (2147483647 : Int32)) % (7 : Int32))), .val (.ref b11), .unset, .unset, .unset, .unset] [(.int (1 : Int32)), (.ref b11)])
  refine own_go (fun _ => XS.lloadN X2.here hx rfl (hb hby at_25) rfl) ?_
  show own_WP p e below _ T2 (mkF m 26 #[.val (.long x0), .second, .val (.int x2), .val (.int x3), .val (.int x4), .val (.int x5), .val (.int ((x2 &&& (2147483647 : Int32)) % (7 : Int32))), .val (.ref b11), .unset, .unset, .unset, .unset] [(.long x0), (.int (1 : Int32)), (.ref b11)])
  refine own_go (fun _ => XS.bipush X2.here hx rfl (hb hby at_26)) ?_
  show own_WP p e below _ T2 (mkF m 28 #[.val (.long x0), .second, .val (.int x2), .val (.int x3), .val (.int x4), .val (.int x5), .val (.int ((x2 &&& (2147483647 : Int32)) % (7 : Int32))), .val (.ref b11), .unset, .unset, .unset, .unset] [(.int (8 : Int32)), (.long x0), (.int (1 : Int32)), (.ref b11)])
  refine own_go (fun _ => XT.lushr X2.here hx rfl (hb hby at_28) rfl) ?_
  show own_WP p e below _ T2 (mkF m 29 #[.val (.long x0), .second, .val (.int x2), .val (.int x3), .val (.int x4), .val (.int x5), .val (.int ((x2 &&& (2147483647 : Int32)) % (7 : Int32))), .val (.ref b11), .unset, .unset, .unset, .unset] [(.long (XT.ushrL x0 (8 : Int32))), (.int (1 : Int32)), (.ref b11)])
  refine own_go (fun _ => XS.l2i X2.here hx rfl (hb hby at_29) rfl) ?_
  show own_WP p e below _ T2 (mkF m 30 #[.val (.long x0), .second, .val (.int x2), .val (.int x3), .val (.int x4), .val (.int x5), .val (.int ((x2 &&& (2147483647 : Int32)) % (7 : Int32))), .val (.ref b11), .unset, .unset, .unset, .unset] [(.int ((XT.ushrL x0 (8 : Int32)).toInt32)), (.int (1 : Int32)), (.ref b11)])
  refine own_go (fun _ => XS.i2b X2.here hx rfl (hb hby at_30) rfl) ?_
  show own_WP p e below _ T2 (mkF m 31 #[.val (.long x0), .second, .val (.int x2), .val (.int x3), .val (.int x4), .val (.int x5), .val (.int ((x2 &&& (2147483647 : Int32)) % (7 : Int32))), .val (.ref b11), .unset, .unset, .unset, .unset] [(.int (((XT.ushrL x0 (8 : Int32)).toInt32).toInt8.toInt32)), (.int (1 : Int32)), (.ref b11)])
  obtain ⟨T3, h3, X3, e3, W3, V'3, st3⟩ := own_bastore X2 C e2 V_b11 (vs' := [(((x0.toInt32).toInt8.toInt32).toInt8.toInt32), ((((XT.ushrL x0 (8 : Int32)).toInt32).toInt8.toInt32).toInt8.toInt32), 0, 0, 0, 0]) (j := (1 : Int32)) (x := (((XT.ushrL x0 (8 : Int32)).toInt32).toInt8.toInt32)) rfl (hb hby at_31)
  refine own_go st3 ?_
  replace V_b11 := V'3
  clear V'3
  replace K := K.wr W3 (Or.inr (by omega))
  replace N := Fr.snoc X3 N (by omega)
  show own_WP p e below _ T3 (mkF m 32 #[.val (.long x0), .second, .val (.int x2), .val (.int x3), .val (.int x4), .val (.int x5), .val (.int ((x2 &&& (2147483647 : Int32)) % (7 : Int32))), .val (.ref b11), .unset, .unset, .unset, .unset] [])
  refine own_go (fun _ => XS.aload X3.here hx rfl (hb hby at_32) rfl rfl) ?_
  show own_WP p e below _ T3 (mkF m 34 #[.val (.long x0), .second, .val (.int x2), .val (.int x3), .val (.int x4), .val (.int x5), .val (.int ((x2 &&& (2147483647 : Int32)) % (7 : Int32))), .val (.ref b11), .unset, .unset, .unset, .unset] [(.ref b11)])
  refine own_go (fun _ => XS.iconst X3.here hx rfl (hb hby at_34)) ?_
  show own_WP p e below _ T3 (mkF m 35 #[.val (.long x0), .second, .val (.int x2), .val (.int x3), .val (.int x4), .val (.int x5), .val (.int ((x2 &&& (2147483647 : Int32)) % (7 : Int32))), .val (.ref b11), .unset, .unset, .unset, .unset] [(.int (2 : Int32)), (.ref b11)])
  refine own_go (fun _ => XS.lloadN X3.here hx rfl (hb hby at_35) rfl) ?_
  show own_WP p e below _ T3 (mkF m 36 #[.val (.long x0), .second, .val (.int x2), .val (.int x3), .val (.int x4), .val (.int x5), .val (.int ((x2 &&& (2147483647 : Int32)) % (7 : Int32))), .val (.ref b11), .unset, .unset, .unset, .unset] [(.long x0), (.int (2 : Int32)), (.ref b11)])
  refine own_go (fun _ => XS.bipush X3.here hx rfl (hb hby at_36)) ?_
  show own_WP p e below _ T3 (mkF m 38 #[.val (.long x0), .second, .val (.int x2), .val (.int x3), .val (.int x4), .val (.int x5), .val (.int ((x2 &&& (2147483647 : Int32)) % (7 : Int32))), .val (.ref b11), .unset, .unset, .unset, .unset] [(.int (16 : Int32)), (.long x0), (.int (2 : Int32)), (.ref b11)])
  refine own_go (fun _ => XT.lushr X3.here hx rfl (hb hby at_38) rfl) ?_
  show own_WP p e below _ T3 (mkF m 39 #[.val (.long x0), .second, .val (.int x2), .val (.int x3), .val (.int x4), .val (.int x5), .val (.int ((x2 &&& (2147483647 : Int32)) % (7 : Int32))), .val (.ref b11), .unset, .unset, .unset, .unset] [(.long (XT.ushrL x0 (16 : Int32))), (.int (2 : Int32)), (.ref b11)])
  refine own_go (fun _ => XS.l2i X3.here hx rfl (hb hby at_39) rfl) ?_
  show own_WP p e below _ T3 (mkF m 40 #[.val (.long x0), .second, .val (.int x2), .val (.int x3), .val (.int x4), .val (.int x5), .val (.int ((x2 &&& (2147483647 : Int32)) % (7 : Int32))), .val (.ref b11), .unset, .unset, .unset, .unset] [(.int ((XT.ushrL x0 (16 : Int32)).toInt32)), (.int (2 : Int32)), (.ref b11)])
  refine own_go (fun _ => XS.i2b X3.here hx rfl (hb hby at_40) rfl) ?_
  show own_WP p e below _ T3 (mkF m 41 #[.val (.long x0), .second, .val (.int x2), .val (.int x3), .val (.int x4), .val (.int x5), .val (.int ((x2 &&& (2147483647 : Int32)) % (7 : Int32))), .val (.ref b11), .unset, .unset, .unset, .unset] [(.int (((XT.ushrL x0 (16 : Int32)).toInt32).toInt8.toInt32)), (.int (2 : Int32)), (.ref b11)])
  obtain ⟨T4, h4, X4, e4, W4, V'4, st4⟩ := own_bastore X3 C e3 V_b11 (vs' := [(((x0.toInt32).toInt8.toInt32).toInt8.toInt32), ((((XT.ushrL x0 (8 : Int32)).toInt32).toInt8.toInt32).toInt8.toInt32), ((((XT.ushrL x0 (16 : Int32)).toInt32).toInt8.toInt32).toInt8.toInt32), 0, 0, 0]) (j := (2 : Int32)) (x := (((XT.ushrL x0 (16 : Int32)).toInt32).toInt8.toInt32)) rfl (hb hby at_41)
  refine own_go st4 ?_
  replace V_b11 := V'4
  clear V'4
  replace K := K.wr W4 (Or.inr (by omega))
  replace N := Fr.snoc X4 N (by omega)
  show own_WP p e below _ T4 (mkF m 42 #[.val (.long x0), .second, .val (.int x2), .val (.int x3), .val (.int x4), .val (.int x5), .val (.int ((x2 &&& (2147483647 : Int32)) % (7 : Int32))), .val (.ref b11), .unset, .unset, .unset, .unset] [])
  refine own_go (fun _ => XS.aload X4.here hx rfl (hb hby at_42) rfl rfl) ?_
  show own_WP p e below _ T4 (mkF m 44 #[.val (.long x0), .second, .val (.int x2), .val (.int x3), .val (.int x4), .val (.int x5), .val (.int ((x2 &&& (2147483647 : Int32)) % (7 : Int32))), .val (.ref b11), .unset, .unset, .unset, .unset] [(.ref b11)])
  refine own_go (fun _ => XS.iconst X4.here hx rfl (hb hby at_44)) ?_
  show own_WP p e below _ T4 (mkF m 45 #[.val (.long x0), .second, .val (.int x2), .val (.int x3), .val (.int x4), .val (.int x5), .val (.int ((x2 &&& (2147483647 : Int32)) % (7 : Int32))), .val (.ref b11), .unset, .unset, .unset, .unset] [(.int (3 : Int32)), (.ref b11)])
  refine own_go (fun _ => XS.lloadN X4.here hx rfl (hb hby at_45) rfl) ?_
  show own_WP p e below _ T4 (mkF m 46 #[.val (.long x0), .second, .val (.int x2), .val (.int x3), .val (.int x4), .val (.int x5), .val (.int ((x2 &&& (2147483647 : Int32)) % (7 : Int32))), .val (.ref b11), .unset, .unset, .unset, .unset] [(.long x0), (.int (3 : Int32)), (.ref b11)])
  refine own_go (fun _ => XS.bipush X4.here hx rfl (hb hby at_46)) ?_
  show own_WP p e below _ T4 (mkF m 48 #[.val (.long x0), .second, .val (.int x2), .val (.int x3), .val (.int x4), .val (.int x5), .val (.int ((x2 &&& (2147483647 : Int32)) % (7 : Int32))), .val (.ref b11), .unset, .unset, .unset, .unset] [(.int (24 : Int32)), (.long x0), (.int (3 : Int32)), (.ref b11)])
  refine own_go (fun _ => XT.lushr X4.here hx rfl (hb hby at_48) rfl) ?_
  show own_WP p e below _ T4 (mkF m 49 #[.val (.long x0), .second, .val (.int x2), .val (.int x3), .val (.int x4), .val (.int x5), .val (.int ((x2 &&& (2147483647 : Int32)) % (7 : Int32))), .val (.ref b11), .unset, .unset, .unset, .unset] [(.long (XT.ushrL x0 (24 : Int32))), (.int (3 : Int32)), (.ref b11)])
  refine own_go (fun _ => XS.l2i X4.here hx rfl (hb hby at_49) rfl) ?_
  show own_WP p e below _ T4 (mkF m 50 #[.val (.long x0), .second, .val (.int x2), .val (.int x3), .val (.int x4), .val (.int x5), .val (.int ((x2 &&& (2147483647 : Int32)) % (7 : Int32))), .val (.ref b11), .unset, .unset, .unset, .unset] [(.int ((XT.ushrL x0 (24 : Int32)).toInt32)), (.int (3 : Int32)), (.ref b11)])
  refine own_go (fun _ => XS.i2b X4.here hx rfl (hb hby at_50) rfl) ?_
  show own_WP p e below _ T4 (mkF m 51 #[.val (.long x0), .second, .val (.int x2), .val (.int x3), .val (.int x4), .val (.int x5), .val (.int ((x2 &&& (2147483647 : Int32)) % (7 : Int32))), .val (.ref b11), .unset, .unset, .unset, .unset] [(.int (((XT.ushrL x0 (24 : Int32)).toInt32).toInt8.toInt32)), (.int (3 : Int32)), (.ref b11)])
  obtain ⟨T5, h5, X5, e5, W5, V'5, st5⟩ := own_bastore X4 C e4 V_b11 (vs' := [(((x0.toInt32).toInt8.toInt32).toInt8.toInt32), ((((XT.ushrL x0 (8 : Int32)).toInt32).toInt8.toInt32).toInt8.toInt32), ((((XT.ushrL x0 (16 : Int32)).toInt32).toInt8.toInt32).toInt8.toInt32), ((((XT.ushrL x0 (24 : Int32)).toInt32).toInt8.toInt32).toInt8.toInt32), 0, 0]) (j := (3 : Int32)) (x := (((XT.ushrL x0 (24 : Int32)).toInt32).toInt8.toInt32)) rfl (hb hby at_51)
  refine own_go st5 ?_
  replace V_b11 := V'5
  clear V'5
  replace K := K.wr W5 (Or.inr (by omega))
  replace N := Fr.snoc X5 N (by omega)
  show own_WP p e below _ T5 (mkF m 52 #[.val (.long x0), .second, .val (.int x2), .val (.int x3), .val (.int x4), .val (.int x5), .val (.int ((x2 &&& (2147483647 : Int32)) % (7 : Int32))), .val (.ref b11), .unset, .unset, .unset, .unset] [])
  refine own_go (fun _ => XS.aload X5.here hx rfl (hb hby at_52) rfl rfl) ?_
  show own_WP p e below _ T5 (mkF m 54 #[.val (.long x0), .second, .val (.int x2), .val (.int x3), .val (.int x4), .val (.int x5), .val (.int ((x2 &&& (2147483647 : Int32)) % (7 : Int32))), .val (.ref b11), .unset, .unset, .unset, .unset] [(.ref b11)])
  refine own_go (fun _ => XS.iconst X5.here hx rfl (hb hby at_54)) ?_
  show own_WP p e below _ T5 (mkF m 55 #[.val (.long x0), .second, .val (.int x2), .val (.int x3), .val (.int x4), .val (.int x5), .val (.int ((x2 &&& (2147483647 : Int32)) % (7 : Int32))), .val (.ref b11), .unset, .unset, .unset, .unset] [(.int (4 : Int32)), (.ref b11)])
  refine own_go (fun _ => XS.lloadN X5.here hx rfl (hb hby at_55) rfl) ?_
  show own_WP p e below _ T5 (mkF m 56 #[.val (.long x0), .second, .val (.int x2), .val (.int x3), .val (.int x4), .val (.int x5), .val (.int ((x2 &&& (2147483647 : Int32)) % (7 : Int32))), .val (.ref b11), .unset, .unset, .unset, .unset] [(.long x0), (.int (4 : Int32)), (.ref b11)])
  refine own_go (fun _ => XS.bipush X5.here hx rfl (hb hby at_56)) ?_
  show own_WP p e below _ T5 (mkF m 58 #[.val (.long x0), .second, .val (.int x2), .val (.int x3), .val (.int x4), .val (.int x5), .val (.int ((x2 &&& (2147483647 : Int32)) % (7 : Int32))), .val (.ref b11), .unset, .unset, .unset, .unset] [(.int (32 : Int32)), (.long x0), (.int (4 : Int32)), (.ref b11)])
  refine own_go (fun _ => XT.lushr X5.here hx rfl (hb hby at_58) rfl) ?_
  show own_WP p e below _ T5 (mkF m 59 #[.val (.long x0), .second, .val (.int x2), .val (.int x3), .val (.int x4), .val (.int x5), .val (.int ((x2 &&& (2147483647 : Int32)) % (7 : Int32))), .val (.ref b11), .unset, .unset, .unset, .unset] [(.long (XT.ushrL x0 (32 : Int32))), (.int (4 : Int32)), (.ref b11)])
  refine own_go (fun _ => XS.l2i X5.here hx rfl (hb hby at_59) rfl) ?_
  show own_WP p e below _ T5 (mkF m 60 #[.val (.long x0), .second, .val (.int x2), .val (.int x3), .val (.int x4), .val (.int x5), .val (.int ((x2 &&& (2147483647 : Int32)) % (7 : Int32))), .val (.ref b11), .unset, .unset, .unset, .unset] [(.int ((XT.ushrL x0 (32 : Int32)).toInt32)), (.int (4 : Int32)), (.ref b11)])
  refine own_go (fun _ => XS.i2b X5.here hx rfl (hb hby at_60) rfl) ?_
  show own_WP p e below _ T5 (mkF m 61 #[.val (.long x0), .second, .val (.int x2), .val (.int x3), .val (.int x4), .val (.int x5), .val (.int ((x2 &&& (2147483647 : Int32)) % (7 : Int32))), .val (.ref b11), .unset, .unset, .unset, .unset] [(.int (((XT.ushrL x0 (32 : Int32)).toInt32).toInt8.toInt32)), (.int (4 : Int32)), (.ref b11)])
  obtain ⟨T6, h6, X6, e6, W6, V'6, st6⟩ := own_bastore X5 C e5 V_b11 (vs' := [(((x0.toInt32).toInt8.toInt32).toInt8.toInt32), ((((XT.ushrL x0 (8 : Int32)).toInt32).toInt8.toInt32).toInt8.toInt32), ((((XT.ushrL x0 (16 : Int32)).toInt32).toInt8.toInt32).toInt8.toInt32), ((((XT.ushrL x0 (24 : Int32)).toInt32).toInt8.toInt32).toInt8.toInt32), ((((XT.ushrL x0 (32 : Int32)).toInt32).toInt8.toInt32).toInt8.toInt32), 0]) (j := (4 : Int32)) (x := (((XT.ushrL x0 (32 : Int32)).toInt32).toInt8.toInt32)) rfl (hb hby at_61)
  refine own_go st6 ?_
  replace V_b11 := V'6
  clear V'6
  replace K := K.wr W6 (Or.inr (by omega))
  replace N := Fr.snoc X6 N (by omega)
  show own_WP p e below _ T6 (mkF m 62 #[.val (.long x0), .second, .val (.int x2), .val (.int x3), .val (.int x4), .val (.int x5), .val (.int ((x2 &&& (2147483647 : Int32)) % (7 : Int32))), .val (.ref b11), .unset, .unset, .unset, .unset] [])
  refine own_go (fun _ => XS.aload X6.here hx rfl (hb hby at_62) rfl rfl) ?_
  show own_WP p e below _ T6 (mkF m 64 #[.val (.long x0), .second, .val (.int x2), .val (.int x3), .val (.int x4), .val (.int x5), .val (.int ((x2 &&& (2147483647 : Int32)) % (7 : Int32))), .val (.ref b11), .unset, .unset, .unset, .unset] [(.ref b11)])
  refine own_go (fun _ => XS.iconst X6.here hx rfl (hb hby at_64)) ?_
  show own_WP p e below _ T6 (mkF m 65 #[.val (.long x0), .second, .val (.int x2), .val (.int x3), .val (.int x4), .val (.int x5), .val (.int ((x2 &&& (2147483647 : Int32)) % (7 : Int32))), .val (.ref b11), .unset, .unset, .unset, .unset] [(.int (5 : Int32)), (.ref b11)])
  refine own_go (fun _ => XS.lloadN X6.here hx rfl (hb hby at_65) rfl) ?_
  show own_WP p e below _ T6 (mkF m 66 #[.val (.long x0), .second, .val (.int x2), .val (.int x3), .val (.int x4), .val (.int x5), .val (.int ((x2 &&& (2147483647 : Int32)) % (7 : Int32))), .val (.ref b11), .unset, .unset, .unset, .unset] [(.long x0), (.int (5 : Int32)), (.ref b11)])
  refine own_go (fun _ => XS.bipush X6.here hx rfl (hb hby at_66)) ?_
  show own_WP p e below _ T6 (mkF m 68 #[.val (.long x0), .second, .val (.int x2), .val (.int x3), .val (.int x4), .val (.int x5), .val (.int ((x2 &&& (2147483647 : Int32)) % (7 : Int32))), .val (.ref b11), .unset, .unset, .unset, .unset] [(.int (40 : Int32)), (.long x0), (.int (5 : Int32)), (.ref b11)])
  refine own_go (fun _ => XT.lushr X6.here hx rfl (hb hby at_68) rfl) ?_
  show own_WP p e below _ T6 (mkF m 69 #[.val (.long x0), .second, .val (.int x2), .val (.int x3), .val (.int x4), .val (.int x5), .val (.int ((x2 &&& (2147483647 : Int32)) % (7 : Int32))), .val (.ref b11), .unset, .unset, .unset, .unset] [(.long (XT.ushrL x0 (40 : Int32))), (.int (5 : Int32)), (.ref b11)])
  refine own_go (fun _ => XS.l2i X6.here hx rfl (hb hby at_69) rfl) ?_
  show own_WP p e below _ T6 (mkF m 70 #[.val (.long x0), .second, .val (.int x2), .val (.int x3), .val (.int x4), .val (.int x5), .val (.int ((x2 &&& (2147483647 : Int32)) % (7 : Int32))), .val (.ref b11), .unset, .unset, .unset, .unset] [(.int ((XT.ushrL x0 (40 : Int32)).toInt32)), (.int (5 : Int32)), (.ref b11)])
  refine own_go (fun _ => XS.i2b X6.here hx rfl (hb hby at_70) rfl) ?_
  show own_WP p e below _ T6 (mkF m 71 #[.val (.long x0), .second, .val (.int x2), .val (.int x3), .val (.int x4), .val (.int x5), .val (.int ((x2 &&& (2147483647 : Int32)) % (7 : Int32))), .val (.ref b11), .unset, .unset, .unset, .unset] [(.int (((XT.ushrL x0 (40 : Int32)).toInt32).toInt8.toInt32)), (.int (5 : Int32)), (.ref b11)])
  obtain ⟨T7, h7, X7, e7, W7, V'7, st7⟩ := own_bastore X6 C e6 V_b11 (vs' := [(((x0.toInt32).toInt8.toInt32).toInt8.toInt32), ((((XT.ushrL x0 (8 : Int32)).toInt32).toInt8.toInt32).toInt8.toInt32), ((((XT.ushrL x0 (16 : Int32)).toInt32).toInt8.toInt32).toInt8.toInt32), ((((XT.ushrL x0 (24 : Int32)).toInt32).toInt8.toInt32).toInt8.toInt32), ((((XT.ushrL x0 (32 : Int32)).toInt32).toInt8.toInt32).toInt8.toInt32), ((((XT.ushrL x0 (40 : Int32)).toInt32).toInt8.toInt32).toInt8.toInt32)]) (j := (5 : Int32)) (x := (((XT.ushrL x0 (40 : Int32)).toInt32).toInt8.toInt32)) rfl (hb hby at_71)
  refine own_go st7 ?_
  replace V_b11 := V'7
  clear V'7
  replace K := K.wr W7 (Or.inr (by omega))
  replace N := Fr.snoc X7 N (by omega)
  exact b0_72 hw C Z0 rr hP X7 e7 N K g_b11 z_b11 V_b11 x0 x2 x3 x4 x5 ((x2 &&& (2147483647 : Int32)) % (7 : Int32)) hv
theorem ef0 (m : MethodId) (x0 : Int64) (x2 : Int32) (x3 : Int32) (x4 : Int32) (x5 : Int32) : entryFrame m #[(.long x0), (.int x2), (.int x3), (.int x4), (.int x5)] maxLocals = (mkF m 0 #[.val (.long x0), .second, .val (.int x2), .val (.int x3), .val (.int x4), .val (.int x5), .unset, .unset, .unset, .unset, .unset, .unset] []) := by first | (simp [entryFrame, mkF, argsToLocals, Value.category, maxLocals]; done) | rfl
theorem pn0 : plainFor x = true := plainFor_of_name (by first | (simp [plainName, overriddenIn, x]; done) | decide +kernel)
theorem own_b8 (x : Int32) : (x.toInt8.toInt32).toInt8.toInt32 = x.toInt8.toInt32 := by
  rw [Int8.toInt8_toInt32]
def own_by (x0 : Int64) (k : Int32) : Int32 := ((XT.ushrL x0 k).toInt32).toInt8.toInt32
theorem own_sh0 (x0 : Int64) : XT.ushrL x0 (0 : Int32) = x0 := by
  apply Int64.toBitVec_inj.mp
  show x0.toBitVec >>> _ = _
  rw [BitVec.ushiftRight_eq']
  rfl
def own_v (x0 : Int64) : List Int32 := [own_by x0 0, own_by x0 8, own_by x0 16, own_by x0 24, own_by x0 32, own_by x0 40]
theorem own_vEq (x0 : Int64) : [(((x0.toInt32).toInt8.toInt32).toInt8.toInt32), ((((XT.ushrL x0 (8 : Int32)).toInt32).toInt8.toInt32).toInt8.toInt32), ((((XT.ushrL x0 (16 : Int32)).toInt32).toInt8.toInt32).toInt8.toInt32), ((((XT.ushrL x0 (24 : Int32)).toInt32).toInt8.toInt32).toInt8.toInt32), ((((XT.ushrL x0 (32 : Int32)).toInt32).toInt8.toInt32).toInt8.toInt32), ((((XT.ushrL x0 (40 : Int32)).toInt32).toInt8.toInt32).toInt8.toInt32)] = own_v x0 := by
  simp only [own_b8, own_v, own_by, own_sh0]
set_option maxHeartbeats 4000000 in
theorem own_72_0 (x0 : Int64) (x3 x4 x5 : Int32) : f0_72 (own_v x0) x0 x3 x4 x5 (0 : Int32) = some 1 := by
  simp +decide [f0_72, f1_0, f2_0, own_v, own_by, f4_0, f5_0, f5_10, f6_0, f7_0, f8_0, own_copyL, f9_0, own_get, own_set, f0_195, f0_196, nar]
set_option maxHeartbeats 4000000 in
theorem own_72_1 (x0 : Int64) (x3 x4 x5 : Int32) : f0_72 (own_v x0) x0 x3 x4 x5 (1 : Int32) = some 1 := by
  simp +decide [f0_72, f1_0, f2_0, own_v, own_by, f4_0, f5_0, f5_10, f6_0, f7_0, f8_0, own_copyL, f9_0, own_get, own_set, f0_195, f0_196, nar]
set_option maxHeartbeats 4000000 in
theorem own_72_2 (x0 : Int64) (x3 x4 x5 : Int32) : f0_72 (own_v x0) x0 x3 x4 x5 (2 : Int32) = some 1 := by
  simp +decide [f0_72, f1_0, f2_0, own_v, own_by, f4_0, f5_0, f5_10, f6_0, f7_0, f8_0, own_copyL, f9_0, own_get, own_set, f0_195, f0_196, nar]
set_option maxHeartbeats 4000000 in
theorem own_72_3 (x0 : Int64) (x3 x4 x5 : Int32) : f0_72 (own_v x0) x0 x3 x4 x5 (3 : Int32) = some 1 := by
  simp +decide [f0_72, f1_0, f2_0, own_v, own_by, f4_0, f5_0, f5_10, f6_0, f7_0, f8_0, own_copyL, f9_0, own_get, own_set, f0_195, f0_196, nar]
set_option maxHeartbeats 4000000 in
theorem own_72_4 (x0 : Int64) (x3 x4 x5 : Int32) : f0_72 (own_v x0) x0 x3 x4 x5 (4 : Int32) = some 1 := by
  simp +decide [f0_72, f1_0, f2_0, own_v, own_by, f4_0, f5_0, f5_10, f6_0, f7_0, f8_0, own_copyL, f9_0, own_get, own_set, f0_195, f0_196, nar]
set_option maxHeartbeats 4000000 in
theorem own_72_5 (x0 : Int64) (x3 x4 x5 : Int32) : f0_72 (own_v x0) x0 x3 x4 x5 (5 : Int32) = some 1 := by
  simp +decide [f0_72, f1_0, f2_0, own_v, own_by, f4_0, f5_0, f5_10, f6_0, f7_0, f8_0, own_copyL, f9_0, own_get, own_set, f0_195, f0_196, nar]
set_option maxHeartbeats 4000000 in
theorem own_72_6 (x0 : Int64) (x3 x4 x5 : Int32) : f0_72 (own_v x0) x0 x3 x4 x5 (6 : Int32) = some 1 := by
  simp +decide [f0_72, f1_0, f2_0, own_v, own_by, f4_0, f5_0, f5_10, f6_0, f7_0, f8_0, own_copyL, f9_0, own_get, own_set, f0_195, f0_196, nar]
theorem own_seven (x : Int32) : (x &&& (2147483647 : Int32)) % (7 : Int32) = 0 ∨ (x &&& (2147483647 : Int32)) % (7 : Int32) = 1 ∨ (x &&& (2147483647 : Int32)) % (7 : Int32) = 2 ∨ (x &&& (2147483647 : Int32)) % (7 : Int32) = 3 ∨ (x &&& (2147483647 : Int32)) % (7 : Int32) = 4 ∨ (x &&& (2147483647 : Int32)) % (7 : Int32) = 5 ∨ (x &&& (2147483647 : Int32)) % (7 : Int32) = 6 := by
  have q := c_mask x 2147483647 31 (by decide) (by decide +kernel)
  have h0 : 0 ≤ (x &&& (2147483647 : Int32)).toInt := by omega
  have e7 : (7 : Int32).toInt = 7 := rfl
  have k : ((x &&& (2147483647 : Int32)) % (7 : Int32)).toInt = (x &&& (2147483647 : Int32)).toInt % 7 := by
    rw [Int32.toInt_mod, Int.tmod_eq_emod_of_nonneg h0, e7]
  simp only [← Int32.toInt_inj]
  show _ = (0 : Int) ∨ _ = (1 : Int) ∨ _ = (2 : Int) ∨ _ = (3 : Int) ∨ _ = (4 : Int) ∨ _ = (5 : Int) ∨ _ = (6 : Int)
  omega
theorem plain0 (x0 : Int64) (x2 x3 x4 x5 : Int32) : f0_0 x0 x2 x3 x4 x5 = some 1 := by
  unfold f0_0
  rw [own_vEq]
  rcases own_seven x2 with h | h | h | h | h | h | h
  · rw [h]; exact own_72_0 x0 x3 x4 x5
  · rw [h]; exact own_72_1 x0 x3 x4 x5
  · rw [h]; exact own_72_2 x0 x3 x4 x5
  · rw [h]; exact own_72_3 x0 x3 x4 x5
  · rw [h]; exact own_72_4 x0 x3 x4 x5
  · rw [h]; exact own_72_5 x0 x3 x4 x5
  · rw [h]; exact own_72_6 x0 x3 x4 x5
theorem rm0 (l : Launch) (Z : State) (a0 : Array Value) (hw : ∀ d ∈ tables_1, d.before a0 Z = true) (ws : List Jvm.Cond) (x0 : Int64) (x2 : Int32) (x3 : Int32) (x4 : Int32) (x5 : Int32) (h0 : Heap) : own_Met l Z x code maxLocals ret ws room_1 #[(.long x0), (.int x2), (.int x3), (.int x4), (.int x5)] h0 (fun v h L => v = some (.int 1) ∧ Fr h0.size L) := by
  refine own_body pn0 ?_
  intro p e s m below meth c s₁ C X e0
  exact own_cast (ef0 m x0 x2 x3 x4 x5) (b0_0 hw C (Nat.le_refl h0.size) (1 : Int32) (fun v h L a b c => ⟨c, a⟩) X e0 (Fr.nil _) (Keep.refl h0 []) x0 x2 x3 x4 x5 (plain0 x0 x2 x3 x4 x5))
set_option maxRecDepth 65536 in
set_option maxHeartbeats 40000000 in
theorem comes_1 {Post : Tables → Env → Array Value → State → Outcome → State → Prop} (hpost : ∀ tb e args s v u, (limb_1_1.after args s (.returned v) u = true ∧ limb_1_2.after args s (.returned v) u = true ∧ True) → FrameEnd s (.returned v) u (Jvm.fieldLocs frame_1_writes args s ++ Jvm.arrayLocs frame_1_arrays args s ++ Jvm.staticLocs frame_1_statics s) 16 128 → Post tb e args s (.returned v) u) :
    ArmFor flags0 classFile x code maxLocals ret World_1 tables_1 room_1 Calls_1 rest_1 Pre_1 Post := by
  intro l hfl _ _ p e ha hc hk s m args below hf hA hF happ hP
  obtain ⟨hcalls, hrest, hpre⟩ := hP
  obtain ⟨-, -, -, hnamed, -, -, -, hat⟩ := (Spec.applies_iff hf).mp happ
  obtain ⟨hg, hn⟩ := and_e (Cond.before_iff.mp (show (Jvm.Cond.and given_1 narrow_1).before args s = true from hpre))
  obtain ⟨hcnt, hg0⟩ := and_e hg
  obtain ⟨ha0, hg1⟩ := and_e hg0
  obtain ⟨ha1, hg2⟩ := and_e hg1
  obtain ⟨ha2, hg3⟩ := and_e hg2
  obtain ⟨ha3, hg4⟩ := and_e hg3
  have ha4 := hg4
  obtain ⟨w0, w1, w2, w3, w4, rfl⟩ : ∃ w0 w1 w2 w3 w4 : Value, args = #[w0, w1, w2, w3, w4] := by
    have hs : args.size = 5 := by simpa [Cond.value, given_1] using hcnt
    obtain ⟨L⟩ := args
    match L, hs with
    | [w0, w1, w2, w3, w4], _ => exact ⟨w0, w1, w2, w3, w4, rfl⟩
  have hw := fun d (hd : d ∈ tables_1) => atoms_spec (ws := Jvm.Cond.code x code maxLocals ret :: tables_1) hat d (List.mem_cons_of_mem _ hd)
  obtain ⟨i0, ei0⟩ := isL_v ha0
  obtain rfl : w0 = (.long i0) := Option.some.inj ei0
  obtain ⟨i1, ei1⟩ := is_v ha1
  obtain rfl : w1 = (.int i1) := Option.some.inj ei1
  obtain ⟨i2, ei2⟩ := is_v ha2
  obtain rfl : w2 = (.int i2) := Option.some.inj ei2
  obtain ⟨i3, ei3⟩ := is_v ha3
  obtain rfl : w3 = (.int i3) := Option.some.inj ei3
  obtain ⟨i4, ei4⟩ := is_v ha4
  obtain rfl : w4 = (.int i4) := Option.some.inj ei4
  obtain ⟨n, o, h1, h2, h3, _, L, rfl, ⟨rfl, N⟩, hq⟩ := rm0 l s _ hw tables_1 i0 i1 i2 i3 i4 s.heap p e ha hc hk s m _ below hf ((Spec.applies_iff_loose hf).mp happ).1 ⟨rfl, State.Warmed39.refl s, rfl⟩ trivial
  refine ⟨n, _, h1, h2, h3, hpost _ _ _ _ _ _ ⟨Cond.after_iff.mpr rfl, Cond.after_iff.mpr (eq_i res_at (Term.int_eval (1)) rfl), trivial⟩ ⟨hq.1, hq.2.1, (hq.2.2.sift fun y hy => Or.inr (N y hy)).mono (by decide) (by decide)⟩⟩
theorem main_1_1 : Claimed_1_1 := comes_1 fun _ _ _ _ _ _ h hF => ⟨h.1, hF⟩
theorem main_1_2 : Claimed_1_2 := comes_1 fun _ _ _ _ _ _ h hF => ⟨h.2.1, hF⟩
end Jvm.Pilot.@@N@@
namespace Jvm.Pilot.@@N@@
open Jvm Jvm.ClassFile Sem Op Lib Jvm.Free Jvm.Stand Jvm.Pilot.@@N@@.Jvm.D
/-! MADE BY PROGRAM (witnessworld.py) out of the Statement's table words and the real class files: 13 classes; the members and pool entries that the words name. The judged class is class 1, her method 1. -/
namespace start1
open Jvm.ClassFile
def u (s : String) : CpInfo := .utf8 (stringToUtf16 s)
/-- a pool by its gaps: so many unusable entries, then the entry; so many at the end -/
def gap : Nat → List CpInfo → List CpInfo
  | 0, r => r
  | n + 1, r => .unusable :: gap n r
def poolList (es : List (Nat × CpInfo)) (last : Nat) : List CpInfo := es.foldr (fun e r => gap e.1 (e.2 :: r)) (gap last [])
def pool (es : List (Nat × CpInfo)) (last : Nat) : Array CpInfo := ⟨poolList es last⟩
def fileOf (pool : Array CpInfo) (this : Nat) (attrs : Array Attribute := #[]) (ms : Array MethodInfo := #[]) (fl : Nat := 33) (sup : Nat := 0) (ifs : Array Nat := #[]) (fds : Array FieldInfo := #[]) : ClassFile where
  minorVersion := 0
  majorVersion := 65
  constantPool := pool
  accessFlags := fl
  thisClass := this
  superClass := sup
  interfaces := ifs
  fields := fds
  methods := ms
  attributes := attrs
def plain (name : String) (sup : Option ClassId) : Class where
  name := name
  kind := .ordinary
  loader := none
  accessFlags := 33
  super := sup
  interfaces := #[]
  cf := none
  fields := #[]
  methods := #[]
  instanceTypes := #[]
  staticTypes := #[]
  resolved := #[]
  callSites := []
  init := .initialized
  statics := none
  mirror := none

def pool0 : Array CpInfo := pool [(5, u "<init>"), (0, u "()V"), (1, .class_ 10), (1, u "java/lang/Object"), (85, u "clone"), (0, u "()Ljava/lang/Object;")] 26

def k0c0 : Code := { maxStack := 0, maxLocals := 1, code := object_method_1_code, exceptionTable := #[], attributes := #[] }
def k0m0 : Method := { name := "<init>", desc := "()V", sig := { parameters := [], returnType := none }, accessFlags := 1, code := some k0c0 }
def k0m1 : Method := { name := "clone", desc := "()Ljava/lang/Object;", sig := { parameters := [], returnType := some (.object "java/lang/Object") }, accessFlags := 260, code := none }
/-- java/lang/Object -/
def k0 : Class := { plain "java/lang/Object" none with
  accessFlags := 33
  interfaces := #[]
  cf := some (fileOf pool0 8 #[] #[{ accessFlags := 1, nameIndex := 5, descriptorIndex := 6, attributes := #[] }, { accessFlags := 260, nameIndex := 96, descriptorIndex := 97, attributes := #[] }] 33 0 #[] #[])
  fields := #[]
  methods := #[k0m0, k0m1]
  instanceTypes := #[]
  staticTypes := #[]
  resolved := Array.replicate 124 none
  statics := none }

def pool1 : Array CpInfo := pool [(2, .class_ 4), (1, u "java/lang/Object"), (0, u "<init>"), (0, u "()V"), (0, .integer 2147483647), (0, .class_ 9), (0, u "com/example/objwire/objwire/rpc/Pdu"), (0, .methodref 8 11), (0, .nameAndType 5 12), (0, u "(III[BI)V"), (0, .methodref 8 14), (0, .nameAndType 15 16), (0, u "token"), (0, u "()[B"), (0, .methodref 18 19), (0, .class_ 20), (0, .nameAndType 21 22), (0, u "com/example/objwire/objwire/rpc/PduTokenPinLaw"), (0, u "at"), (0, u "([BIIJ)Z"), (2, u "law"), (0, u "(JIIII)Z")] 5

def k1m0 : Method := { name := "<init>", desc := "()V", sig := { parameters := [], returnType := none }, accessFlags := 1, code := none }
def k1c1 : Code := { maxStack := 7, maxLocals := 12, code := code, exceptionTable := #[], attributes := #[] }
def k1m1 : Method := { name := "law", desc := "(JIIII)Z", sig := { parameters := [.long, .int, .int, .int, .int], returnType := some .boolean }, accessFlags := 9, code := some k1c1 }
def k1c2 : Code := { maxStack := 5, maxLocals := 6, code := method_3_code, exceptionTable := #[], attributes := #[] }
def k1m2 : Method := { name := "at", desc := "([BIIJ)Z", sig := { parameters := [(.array .byte), .int, .int, .long], returnType := some .boolean }, accessFlags := 10, code := some k1c2 }
/-- com/example/objwire/objwire/rpc/PduTokenPinLaw -/
def k1 : Class := { plain "com/example/objwire/objwire/rpc/PduTokenPinLaw" (some 0) with
  accessFlags := 49
  interfaces := #[]
  cf := some (fileOf pool1 18 #[] #[{ accessFlags := 1, nameIndex := 5, descriptorIndex := 6, attributes := #[] }, { accessFlags := 9, nameIndex := 25, descriptorIndex := 26, attributes := #[] }, { accessFlags := 10, nameIndex := 21, descriptorIndex := 22, attributes := #[] }] 49 2 #[] #[])
  fields := #[]
  methods := #[k1m0, k1m1, k1m2]
  instanceTypes := #[]
  staticTypes := #[]
  resolved := Array.replicate 32 none
  statics := none }

def pool2 : Array CpInfo := pool [(1, .methodref 2 3), (0, .class_ 4), (0, .nameAndType 5 6), (0, u "java/lang/Object"), (0, u "<init>"), (0, u "()V"), (0, .class_ 8), (0, u "java/lang/Record")] 13

def k2c0 : Code := { maxStack := 1, maxLocals := 1, code := jdk_30_method_1_code, exceptionTable := #[], attributes := #[] }
def k2m0 : Method := { name := "<init>", desc := "()V", sig := { parameters := [], returnType := none }, accessFlags := 4, code := some k2c0 }
/-- java/lang/Record -/
def k2 : Class := { plain "java/lang/Record" (some 0) with
  accessFlags := 1057
  interfaces := #[]
  cf := some (fileOf pool2 7 #[] #[{ accessFlags := 4, nameIndex := 5, descriptorIndex := 6, attributes := #[] }] 1057 2 #[] #[])
  fields := #[]
  methods := #[k2m0]
  instanceTypes := #[]
  staticTypes := #[]
  resolved := Array.replicate 22 none
  statics := none }

def pool3 : Array CpInfo := pool [(1, .class_ 2), (0, u "com/example/objwire/objwire/rpc/Pdu"), (0, .methodref 4 5), (0, .class_ 6), (0, .nameAndType 7 8), (0, u "java/lang/Record"), (0, u "<init>"), (0, u "()V"), (0, .fieldref 1 10), (0, .nameAndType 11 12), (0, u "type"), (0, u "I"), (0, .fieldref 1 14), (0, .nameAndType 15 12), (0, u "flags"), (0, .fieldref 1 17), (0, .nameAndType 18 12), (0, u "callId"), (0, .fieldref 1 20), (0, .nameAndType 21 22), (0, u "body"), (0, u "[B"), (0, .fieldref 1 24), (0, .nameAndType 25 12), (0, u "authLength"), (2, u "(III[BI)V"), (11, .class_ 42), (1, u "com/example/objwire/objwire/rpc/Pdu$Header"), (80, u "()[B"), (25, .methodref 150 151), (0, .class_ 152), (0, .nameAndType 153 154), (0, u "java/util/Arrays"), (0, u "copyOfRange"), (0, u "([BII)[B"), (38, u "DATA_REPRESENTATION"), (25, u "REQUEST"), (2, u "RESPONSE"), (1, u "FAULT"), (1, u "BIND"), (1, u "BIND_ACK"), (1, u "BIND_NAK"), (1, u "ALTER_CONTEXT"), (1, u "ALTER_CONTEXT_RESP"), (1, u "AUTH3"), (1, u "FIRST_FRAGMENT"), (1, u "LAST_FRAGMENT"), (0, u "OBJECT_UUID"), (1, u "ONLY_FRAGMENT"), (0, u "MAX_FRAGMENT"), (1, u "MIN_FRAGMENT"), (1, u "HEADER_LENGTH"), (0, u "ALLOC_HINT_LENGTH"), (15, u "token")] 45

def k3c0 : Code := { maxStack := 2, maxLocals := 6, code := prog_106_method_2_code, exceptionTable := #[], attributes := #[] }
def k3m0 : Method := { name := "<init>", desc := "(III[BI)V", sig := { parameters := [.int, .int, .int, (.array .byte), .int], returnType := none }, accessFlags := 1, code := some k3c0 }
def k3c1 : Code := { maxStack := 3, maxLocals := 1, code := prog_106_method_8_code, exceptionTable := #[], attributes := #[] }
def k3m1 : Method := { name := "token", desc := "()[B", sig := { parameters := [], returnType := some (.array .byte) }, accessFlags := 1, code := some k3c1 }
/-- com/example/objwire/objwire/rpc/Pdu -/
def k3 : Class := { plain "com/example/objwire/objwire/rpc/Pdu" (some 2) with
  accessFlags := 49
  interfaces := #[]
  cf := some (fileOf pool3 1 #[.nestMembers #[40]] #[{ accessFlags := 1, nameIndex := 7, descriptorIndex := 28, attributes := #[] }, { accessFlags := 1, nameIndex := 265, descriptorIndex := 123, attributes := #[] }] 49 4 #[] #[{ accessFlags := 18, nameIndex := 11, descriptorIndex := 12, attributes := #[] }, { accessFlags := 18, nameIndex := 15, descriptorIndex := 12, attributes := #[] }, { accessFlags := 18, nameIndex := 18, descriptorIndex := 12, attributes := #[] }, { accessFlags := 18, nameIndex := 21, descriptorIndex := 22, attributes := #[] }, { accessFlags := 18, nameIndex := 25, descriptorIndex := 12, attributes := #[] }, { accessFlags := 25, nameIndex := 219, descriptorIndex := 12, attributes := #[] }, { accessFlags := 25, nameIndex := 222, descriptorIndex := 12, attributes := #[] }, { accessFlags := 25, nameIndex := 224, descriptorIndex := 12, attributes := #[] }, { accessFlags := 25, nameIndex := 226, descriptorIndex := 12, attributes := #[] }, { accessFlags := 25, nameIndex := 228, descriptorIndex := 12, attributes := #[] }, { accessFlags := 25, nameIndex := 230, descriptorIndex := 12, attributes := #[] }, { accessFlags := 25, nameIndex := 232, descriptorIndex := 12, attributes := #[] }, { accessFlags := 25, nameIndex := 234, descriptorIndex := 12, attributes := #[] }, { accessFlags := 25, nameIndex := 236, descriptorIndex := 12, attributes := #[] }, { accessFlags := 25, nameIndex := 238, descriptorIndex := 12, attributes := #[] }, { accessFlags := 25, nameIndex := 240, descriptorIndex := 12, attributes := #[] }, { accessFlags := 25, nameIndex := 241, descriptorIndex := 12, attributes := #[] }, { accessFlags := 25, nameIndex := 243, descriptorIndex := 12, attributes := #[] }, { accessFlags := 24, nameIndex := 244, descriptorIndex := 12, attributes := #[] }, { accessFlags := 24, nameIndex := 246, descriptorIndex := 12, attributes := #[] }, { accessFlags := 26, nameIndex := 248, descriptorIndex := 12, attributes := #[] }, { accessFlags := 26, nameIndex := 249, descriptorIndex := 12, attributes := #[] }, { accessFlags := 26, nameIndex := 193, descriptorIndex := 22, attributes := #[] }])
  fields := #[{ name := "type", type := .int, accessFlags := 18, slot := 0, constantValue := 0 }, { name := "flags", type := .int, accessFlags := 18, slot := 1, constantValue := 0 }, { name := "callId", type := .int, accessFlags := 18, slot := 2, constantValue := 0 }, { name := "body", type := (.array .byte), accessFlags := 18, slot := 3, constantValue := 0 }, { name := "authLength", type := .int, accessFlags := 18, slot := 4, constantValue := 0 }, { name := "REQUEST", type := .int, accessFlags := 25, slot := 0, constantValue := 0 }, { name := "RESPONSE", type := .int, accessFlags := 25, slot := 1, constantValue := 0 }, { name := "FAULT", type := .int, accessFlags := 25, slot := 2, constantValue := 0 }, { name := "BIND", type := .int, accessFlags := 25, slot := 3, constantValue := 0 }, { name := "BIND_ACK", type := .int, accessFlags := 25, slot := 4, constantValue := 0 }, { name := "BIND_NAK", type := .int, accessFlags := 25, slot := 5, constantValue := 0 }, { name := "ALTER_CONTEXT", type := .int, accessFlags := 25, slot := 6, constantValue := 0 }, { name := "ALTER_CONTEXT_RESP", type := .int, accessFlags := 25, slot := 7, constantValue := 0 }, { name := "AUTH3", type := .int, accessFlags := 25, slot := 8, constantValue := 0 }, { name := "FIRST_FRAGMENT", type := .int, accessFlags := 25, slot := 9, constantValue := 0 }, { name := "LAST_FRAGMENT", type := .int, accessFlags := 25, slot := 10, constantValue := 0 }, { name := "OBJECT_UUID", type := .int, accessFlags := 25, slot := 11, constantValue := 0 }, { name := "ONLY_FRAGMENT", type := .int, accessFlags := 25, slot := 12, constantValue := 0 }, { name := "MAX_FRAGMENT", type := .int, accessFlags := 24, slot := 13, constantValue := 0 }, { name := "MIN_FRAGMENT", type := .int, accessFlags := 24, slot := 14, constantValue := 0 }, { name := "HEADER_LENGTH", type := .int, accessFlags := 26, slot := 15, constantValue := 0 }, { name := "ALLOC_HINT_LENGTH", type := .int, accessFlags := 26, slot := 16, constantValue := 0 }, { name := "DATA_REPRESENTATION", type := (.array .byte), accessFlags := 26, slot := 17, constantValue := 0 }]
  methods := #[k3m0, k3m1]
  instanceTypes := #[.int, .int, .int, (.array .byte), .int]
  staticTypes := #[.int, .int, .int, .int, .int, .int, .int, .int, .int, .int, .int, .int, .int, .int, .int, .int, .int, (.array .byte)]
  resolved := Array.replicate 311 none
  statics := none }

def pool4 : Array CpInfo := pool [(2, .class_ 4), (1, u "java/lang/Object"), (0, u "<init>"), (0, u "()V"), (7, .class_ 16), (1, u "java/util/Arrays"), (57, .class_ 76), (1, u "java/util/Arrays$NaturalOrder"), (32, u "()Ljava/lang/Object;"), (3, .class_ 115), (1, u "java/util/Arrays$LegacyMergeSort"), (1, u "Z"), (10, .nameAndType 129 109), (0, u "clone"), (9, u "copyOfRange"), (10, .methodref 151 152), (0, .class_ 153), (0, .nameAndType 154 155), (0, u "java/lang/System"), (0, u "arraycopy"), (0, u "(Ljava/lang/Object;ILjava/lang/Object;II)V"), (148, .methodref 305 306), (0, .class_ 307), (0, .nameAndType 308 309), (0, u "java/lang/Math"), (0, u "min"), (0, u "(II)I"), (0, .methodref 311 128), (0, .class_ 312), (0, u "[B"), (26, .methodref 14 340), (0, .nameAndType 341 342), (0, u "copyOfRangeByte"), (0, u "([BII)[B"), (0, .methodref 14 344), (0, .nameAndType 345 346), (0, u "checkLength"), (0, u "(II)V"), (28, .class_ 376), (0, u "java/util/Arrays$ArrayList"), (68, u "$assertionsDisabled"), (269, u "MIN_ARRAY_SORT_GRAN"), (0, u "I"), (2, u "INSERTIONSORT_THRESHOLD"), (255, .class_ 976), (0, u "java/util/Arrays$ArrayItr")] 52

def k4m0 : Method := { name := "<init>", desc := "()V", sig := { parameters := [], returnType := none }, accessFlags := 2, code := none }
def k4c1 : Code := { maxStack := 4, maxLocals := 2, code := jdk_65_method_131_code, exceptionTable := #[], attributes := #[] }
def k4m1 : Method := { name := "checkLength", desc := "(II)V", sig := { parameters := [.int, .int], returnType := none }, accessFlags := 10, code := some k4c1 }
def k4c2 : Code := { maxStack := 3, maxLocals := 3, code := jdk_65_method_132_code, exceptionTable := #[], attributes := #[] }
def k4m2 : Method := { name := "copyOfRange", desc := "([BII)[B", sig := { parameters := [(.array .byte), .int, .int], returnType := some (.array .byte) }, accessFlags := 9, code := some k4c2 }
def k4c3 : Code := { maxStack := 6, maxLocals := 5, code := jdk_65_method_133_code, exceptionTable := #[], attributes := #[] }
def k4m3 : Method := { name := "copyOfRangeByte", desc := "([BII)[B", sig := { parameters := [(.array .byte), .int, .int], returnType := some (.array .byte) }, accessFlags := 10, code := some k4c3 }
/-- java/util/Arrays -/
def k4 : Class := { plain "java/util/Arrays" (some 0) with
  accessFlags := 49
  interfaces := #[]
  cf := some (fileOf pool4 14 #[.nestMembers #[975, 375, 113, 74]] #[{ accessFlags := 2, nameIndex := 5, descriptorIndex := 6, attributes := #[] }, { accessFlags := 10, nameIndex := 345, descriptorIndex := 346, attributes := #[] }, { accessFlags := 9, nameIndex := 139, descriptorIndex := 342, attributes := #[] }, { accessFlags := 10, nameIndex := 341, descriptorIndex := 342, attributes := #[] }] 49 2 #[] #[{ accessFlags := 26, nameIndex := 715, descriptorIndex := 716, attributes := #[] }, { accessFlags := 26, nameIndex := 719, descriptorIndex := 716, attributes := #[] }, { accessFlags := 4120, nameIndex := 445, descriptorIndex := 117, attributes := #[] }])
  fields := #[{ name := "MIN_ARRAY_SORT_GRAN", type := .int, accessFlags := 26, slot := 0, constantValue := 0 }, { name := "INSERTIONSORT_THRESHOLD", type := .int, accessFlags := 26, slot := 1, constantValue := 0 }, { name := "$assertionsDisabled", type := .boolean, accessFlags := 4120, slot := 2, constantValue := 0 }]
  methods := #[k4m0, k4m1, k4m2, k4m3]
  instanceTypes := #[]
  staticTypes := #[.int, .int, .boolean]
  resolved := Array.replicate 1029 none
  statics := none }

def pool5 : Array CpInfo := pool [(1, .class_ 2), (0, u "java/lang/Math"), (1, .class_ 6), (1, u "java/lang/Object"), (0, u "<init>"), (0, u "()V"), (89, .class_ 100), (1, u "java/lang/Math$RandomNumberGeneratorHolder"), (71, u "negativeZeroFloatBits"), (0, u "J"), (2, u "negativeZeroDoubleBits"), (24, u "min"), (43, u "$assertionsDisabled"), (0, u "Z"), (88, u "(II)I"), (2, u "twoToTheDoubleScaleDown"), (0, u "D"), (4, u "twoToTheDoubleScaleUp"), (9, u "E"), (3, u "PI"), (2, u "TAU"), (2, u "DEGREES_TO_RADIANS"), (0, u "RADIANS_TO_DEGREES")] 94

def k5m0 : Method := { name := "<init>", desc := "()V", sig := { parameters := [], returnType := none }, accessFlags := 2, code := none }
def k5c1 : Code := { maxStack := 2, maxLocals := 2, code := jdk_29_method_69_code, exceptionTable := #[], attributes := #[] }
def k5m1 : Method := { name := "min", desc := "(II)I", sig := { parameters := [.int, .int], returnType := some .int }, accessFlags := 9, code := some k5c1 }
/-- java/lang/Math -/
def k5 : Class := { plain "java/lang/Math" (some 0) with
  accessFlags := 49
  interfaces := #[]
  cf := some (fileOf pool5 1 #[.nestMembers #[98]] #[{ accessFlags := 2, nameIndex := 7, descriptorIndex := 8, attributes := #[] }, { accessFlags := 9, nameIndex := 201, descriptorIndex := 335, attributes := #[] }] 49 4 #[] #[{ accessFlags := 25, nameIndex := 354, descriptorIndex := 339, attributes := #[] }, { accessFlags := 25, nameIndex := 358, descriptorIndex := 339, attributes := #[] }, { accessFlags := 25, nameIndex := 361, descriptorIndex := 339, attributes := #[] }, { accessFlags := 26, nameIndex := 364, descriptorIndex := 339, attributes := #[] }, { accessFlags := 26, nameIndex := 365, descriptorIndex := 339, attributes := #[] }, { accessFlags := 26, nameIndex := 172, descriptorIndex := 173, attributes := #[] }, { accessFlags := 26, nameIndex := 176, descriptorIndex := 173, attributes := #[] }, { accessFlags := 8, nameIndex := 344, descriptorIndex := 339, attributes := #[] }, { accessFlags := 8, nameIndex := 338, descriptorIndex := 339, attributes := #[] }, { accessFlags := 4120, nameIndex := 245, descriptorIndex := 246, attributes := #[] }])
  fields := #[{ name := "E", type := .double, accessFlags := 25, slot := 0, constantValue := 0 }, { name := "PI", type := .double, accessFlags := 25, slot := 1, constantValue := 0 }, { name := "TAU", type := .double, accessFlags := 25, slot := 2, constantValue := 0 }, { name := "DEGREES_TO_RADIANS", type := .double, accessFlags := 26, slot := 3, constantValue := 0 }, { name := "RADIANS_TO_DEGREES", type := .double, accessFlags := 26, slot := 4, constantValue := 0 }, { name := "negativeZeroFloatBits", type := .long, accessFlags := 26, slot := 5, constantValue := 0 }, { name := "negativeZeroDoubleBits", type := .long, accessFlags := 26, slot := 6, constantValue := 0 }, { name := "twoToTheDoubleScaleUp", type := .double, accessFlags := 8, slot := 7, constantValue := 0 }, { name := "twoToTheDoubleScaleDown", type := .double, accessFlags := 8, slot := 8, constantValue := 0 }, { name := "$assertionsDisabled", type := .boolean, accessFlags := 4120, slot := 9, constantValue := 0 }]
  methods := #[k5m0, k5m1]
  instanceTypes := #[]
  staticTypes := #[.double, .double, .double, .double, .double, .long, .long, .double, .double, .boolean]
  resolved := Array.replicate 460 none
  statics := none }

def pool6 : Array CpInfo := pool [(2, .class_ 4), (1, u "java/lang/Object"), (0, u "<init>"), (0, u "()V"), (1, .class_ 10), (1, u "java/lang/System"), (0, u "allowSecurityManager"), (0, u "I"), (16, u "cons"), (0, u "Ljava/io/Console;"), (77, .class_ 110), (1, u "java/lang/System$CallersHolder"), (43, u "initialErrStream"), (0, u "Ljava/io/PrintStream;"), (19, u "security"), (0, u "Ljava/lang/SecurityManager;"), (31, .class_ 209), (0, u "java/lang/System$1"), (7, u "props"), (0, u "Ljava/util/Properties;"), (2, u "lineSeparator"), (0, u "Ljava/lang/String;"), (96, .class_ 321), (1, u "java/lang/System$LoggerFinder"), (5, .class_ 328), (0, u "java/lang/System$Logger"), (67, u "err"), (2, u "out"), (91, u "notSupportedJnuEncoding"), (15, u "in"), (17, u "initialIn"), (0, u "Ljava/io/InputStream;"), (35, u "bootLayer"), (0, u "Ljava/lang/ModuleLayer;"), (99, .class_ 664), (0, u "java/lang/System$2"), (9, u "NEVER"), (2, u "MAYBE"), (49, u "arraycopy"), (0, u "(Ljava/lang/Object;ILjava/lang/Object;II)V"), (72, .class_ 802), (0, u "java/lang/System$Logger$Level")] 31

def k6m0 : Method := { name := "<init>", desc := "()V", sig := { parameters := [], returnType := none }, accessFlags := 2, code := none }
def k6m1 : Method := { name := "arraycopy", desc := "(Ljava/lang/Object;ILjava/lang/Object;II)V", sig := { parameters := [(.object "java/lang/Object"), .int, (.object "java/lang/Object"), .int, .int], returnType := none }, accessFlags := 265, code := none }
/-- java/lang/System -/
def k6 : Class := { plain "java/lang/System" (some 0) with
  accessFlags := 49
  interfaces := #[]
  cf := some (fileOf pool6 8 #[.nestMembers #[319, 327, 801, 108, 663, 208]] #[{ accessFlags := 2, nameIndex := 5, descriptorIndex := 6, attributes := #[] }, { accessFlags := 265, nameIndex := 727, descriptorIndex := 728, attributes := #[] }] 49 2 #[] #[{ accessFlags := 25, nameIndex := 507, descriptorIndex := 526, attributes := #[] }, { accessFlags := 25, nameIndex := 399, descriptorIndex := 155, attributes := #[] }, { accessFlags := 25, nameIndex := 396, descriptorIndex := 155, attributes := #[] }, { accessFlags := 10, nameIndex := 525, descriptorIndex := 526, attributes := #[] }, { accessFlags := 26, nameIndex := 674, descriptorIndex := 12, attributes := #[] }, { accessFlags := 26, nameIndex := 677, descriptorIndex := 12, attributes := #[] }, { accessFlags := 10, nameIndex := 11, descriptorIndex := 12, attributes := #[] }, { accessFlags := 74, nameIndex := 175, descriptorIndex := 176, attributes := #[] }, { accessFlags := 10, nameIndex := 491, descriptorIndex := 222, attributes := #[] }, { accessFlags := 74, nameIndex := 29, descriptorIndex := 30, attributes := #[] }, { accessFlags := 74, nameIndex := 154, descriptorIndex := 155, attributes := #[] }, { accessFlags := 10, nameIndex := 217, descriptorIndex := 218, attributes := #[] }, { accessFlags := 10, nameIndex := 221, descriptorIndex := 222, attributes := #[] }, { accessFlags := 8, nameIndex := 562, descriptorIndex := 563, attributes := #[] }])
  fields := #[{ name := "in", type := (.object "java/io/InputStream"), accessFlags := 25, slot := 0, constantValue := 0 }, { name := "out", type := (.object "java/io/PrintStream"), accessFlags := 25, slot := 1, constantValue := 0 }, { name := "err", type := (.object "java/io/PrintStream"), accessFlags := 25, slot := 2, constantValue := 0 }, { name := "initialIn", type := (.object "java/io/InputStream"), accessFlags := 10, slot := 3, constantValue := 0 }, { name := "NEVER", type := .int, accessFlags := 26, slot := 4, constantValue := 0 }, { name := "MAYBE", type := .int, accessFlags := 26, slot := 5, constantValue := 0 }, { name := "allowSecurityManager", type := .int, accessFlags := 10, slot := 6, constantValue := 0 }, { name := "security", type := (.object "java/lang/SecurityManager"), accessFlags := 74, slot := 7, constantValue := 0 }, { name := "notSupportedJnuEncoding", type := (.object "java/lang/String"), accessFlags := 10, slot := 8, constantValue := 0 }, { name := "cons", type := (.object "java/io/Console"), accessFlags := 74, slot := 9, constantValue := 0 }, { name := "initialErrStream", type := (.object "java/io/PrintStream"), accessFlags := 74, slot := 10, constantValue := 0 }, { name := "props", type := (.object "java/util/Properties"), accessFlags := 10, slot := 11, constantValue := 0 }, { name := "lineSeparator", type := (.object "java/lang/String"), accessFlags := 10, slot := 12, constantValue := 0 }, { name := "bootLayer", type := (.object "java/lang/ModuleLayer"), accessFlags := 8, slot := 13, constantValue := 0 }]
  methods := #[k6m0, k6m1]
  instanceTypes := #[]
  staticTypes := #[(.object "java/io/InputStream"), (.object "java/io/PrintStream"), (.object "java/io/PrintStream"), (.object "java/io/InputStream"), .int, .int, .int, (.object "java/lang/SecurityManager"), (.object "java/lang/String"), (.object "java/io/Console"), (.object "java/io/PrintStream"), (.object "java/util/Properties"), (.object "java/lang/String"), (.object "java/lang/ModuleLayer")]
  resolved := Array.replicate 834 none
  statics := none }

def pool7 : Array CpInfo := pool [(1, .class_ 2), (0, u "java/lang/Cloneable"), (0, .class_ 4), (0, u "java/lang/Object")] 2

/-- java/lang/Cloneable -/
def k7 : Class := { plain "java/lang/Cloneable" (some 0) with
  accessFlags := 1537
  interfaces := #[]
  cf := some (fileOf pool7 1 #[] #[] 1537 3 #[] #[])
  fields := #[]
  methods := #[]
  instanceTypes := #[]
  staticTypes := #[]
  resolved := Array.replicate 7 none
  statics := none }

def pool8 : Array CpInfo := pool [(1, u "java/io/Serializable"), (0, .class_ 1), (0, u "java/lang/Object"), (0, .class_ 3)] 3

/-- java/io/Serializable -/
def k8 : Class := { plain "java/io/Serializable" (some 0) with
  accessFlags := 1537
  interfaces := #[]
  cf := some (fileOf pool8 2 #[] #[] 1537 4 #[] #[])
  fields := #[]
  methods := #[]
  instanceTypes := #[]
  staticTypes := #[]
  resolved := Array.replicate 8 none
  statics := none }

/-- the primitive byte -/
def k9 : Class := { plain "byte" none with kind := .primitive 'B', accessFlags := 0x411 }
/-- [B -/
def k10 : Class := { plain "[B" (some 0) with kind := .array 9 .byte, interfaces := #[7, 8], accessFlags := 1041 }

/-- the primitive int -/
def k11 : Class := { plain "int" none with kind := .primitive 'I', accessFlags := 0x411 }
/-- [I -/
def k12 : Class := { plain "[I" (some 0) with kind := .array 11 .int, interfaces := #[7, 8], accessFlags := 1041 }

def heap : Heap := #[]
def classes : Array Class := #[k0, k1, k2, k3, k4, k5, k6, k7, k8, k9, k10, k11, k12]
def interned : List (Array UInt16 × Addr) := []
def slotsUsed : Nat := 0
def theMethod : MethodId := ⟨1, 1⟩
def args0 : Array Value := #[.long 5, .int 5, .int 5, .int 5, .int 5]
def aboutOver (below : List Frame) : State where
  vm := { classes := classes, interned := interned.toArray }
  heap := heap
  slotsUsed := slotsUsed
  threads := #[{ frames := .invoking theMethod args0 :: below }]
def below0 : List Frame := [.native { method := ⟨0, 0⟩, args := #[] }]
def about1 : State := aboutOver below0
def p0 : Program := .bare "" "" ""
def e0 : Env := launch0.env 0 0 0
theorem w_frames : about1.frames = Frame.invoking theMethod args0 :: below0 := rfl
set_option maxRecDepth 65536 in
theorem w_args : argsFit about1.vm theMethod args0 = true := by decide +kernel
set_option maxRecDepth 65536 in
theorem w_heap : heapFits about1 = true := by decide +kernel
set_option maxRecDepth 65536 in
theorem w_runnable : about1.curStatus? = some .runnable := by decide +kernel
set_option maxRecDepth 65536 in
theorem w_alone : about1.alone = true := by decide +kernel
set_option maxRecDepth 65536 in
theorem w_named : about1.methodNamed? x = some theMethod := by decide +kernel
set_option maxRecDepth 65536 in
theorem w_hears : about1.hears theMethod below0 = true := by decide +kernel
set_option maxRecDepth 65536 in
theorem w_ripe : about1.ripe theMethod args0 below0 = true := by decide +kernel
theorem w_running : about1.status = .running := rfl
set_option maxRecDepth 65536 in
theorem w_room : about1.hasRoom e0.platform room_1 = true :=
  launch0.hasRoom_least _ room_1 (by decide +kernel) (by decide +kernel) (by decide +kernel) (by decide +kernel) (by decide +kernel) (by decide +kernel)
theorem allAtoms_all (ts : List Jvm.Cond) (a : Array Jvm.Value) (st : Jvm.State) : (allAtoms ts).before a st = ts.all (fun c => c.before a st) := by
  induction ts with
  | nil => rfl
  | cons c t ih =>
    show (Jvm.Cond.and c (allAtoms t)).before a st = _
    rw [Jvm.Cond.before_and, ih, List.all_cons]
def words1 : List Jvm.Cond := Jvm.Cond.code x code maxLocals ret :: tables_1
/-- a 'code' word, met by the world's own term for the bytes: nothing is compared byte by byte -/
theorem code_word {y : MethodName} {bytes : ByteArray} {mx : Nat} {rt : Option FieldType} {a : Array Value} {s : State} {m : MethodId} {meth : Method} {c : Code} (h1 : s.methodNamed? y = some m) (h2 : s.vm.method? m = some meth) (h3 : meth.code = some c) (h4 : c.code = bytes)
    (h5 : (c.maxLocals == mx && c.exceptionTable.isEmpty && decide (c.maxStack ≤ mostOperands) && decide (meth.sig.returnType = rt) && !meth.locks && decide (parseMethodDescriptor y.desc = some meth.sig)) = true) : (Jvm.Cond.code y bytes mx rt).before a s = true := by
  simp only [Bool.and_eq_true, beq_iff_eq, Bool.not_eq_true', decide_eq_true_eq] at h5
  obtain ⟨⟨⟨⟨⟨g1, g2⟩, g3⟩, g4⟩, g5⟩, g6⟩ := h5
  simp [Cond.before, Cond.holds, Cond.value, h1, h2, h3, h4, g1, g2, g3, g4, g5, g6]
def isCode : Jvm.Cond → Bool
  | .code _ _ _ _ => true
  | _ => false
theorem all_split {L : List Jvm.Cond} {P : Jvm.Cond → Bool} (h1 : L.all (fun c => isCode c || P c) = true) (h2 : ∀ c ∈ L.filter isCode, P c = true) : L.all P = true := by
  refine List.all_eq_true.mpr fun c hc => ?_
  have h := List.all_eq_true.mp h1 c hc
  rcases Bool.eq_false_or_eq_true (isCode c) with hi | hi
  · exact h2 c (List.mem_filter.mpr ⟨hc, hi⟩)
  · simpa [hi] using h
set_option maxRecDepth 65536 in
theorem w_c0 : (Jvm.Cond.code x code maxLocals ret).before args0 about1 = true := code_word (m := ⟨1, 1⟩) (meth := k1m1) (c := k1c1) (by decide +kernel) rfl rfl rfl (by decide +kernel)
set_option maxRecDepth 65536 in
theorem w_c1 : (Jvm.Cond.code ({ cls := "com/example/objwire/objwire/rpc/Pdu", name := "<init>", desc := "(III[BI)V" } : Jvm.MethodName) prog_106_method_2_code (6 : Nat) (Option.none : Option Jvm.ClassFile.FieldType)).before args0 about1 = true := code_word (m := ⟨3, 0⟩) (meth := k3m0) (c := k3c0) (by decide +kernel) rfl rfl rfl (by decide +kernel)
set_option maxRecDepth 65536 in
theorem w_c2 : (Jvm.Cond.code ({ cls := "java/lang/Record", name := "<init>", desc := "()V" } : Jvm.MethodName) jdk_30_method_1_code (1 : Nat) (Option.none : Option Jvm.ClassFile.FieldType)).before args0 about1 = true := code_word (m := ⟨2, 0⟩) (meth := k2m0) (c := k2c0) (by decide +kernel) rfl rfl rfl (by decide +kernel)
set_option maxRecDepth 65536 in
theorem w_c3 : (Jvm.Cond.code ({ cls := "java/lang/Object", name := "<init>", desc := "()V" } : Jvm.MethodName) object_method_1_code (1 : Nat) (Option.none : Option Jvm.ClassFile.FieldType)).before args0 about1 = true := code_word (m := ⟨0, 0⟩) (meth := k0m0) (c := k0c0) (by decide +kernel) rfl rfl rfl (by decide +kernel)
set_option maxRecDepth 65536 in
theorem w_c4 : (Jvm.Cond.code ({ cls := "com/example/objwire/objwire/rpc/Pdu", name := "token", desc := "()[B" } : Jvm.MethodName) prog_106_method_8_code (1 : Nat) (Option.some (Jvm.ClassFile.FieldType.array Jvm.ClassFile.FieldType.byte))).before args0 about1 = true := code_word (m := ⟨3, 1⟩) (meth := k3m1) (c := k3c1) (by decide +kernel) rfl rfl rfl (by decide +kernel)
set_option maxRecDepth 65536 in
theorem w_c5 : (Jvm.Cond.code ({ cls := "java/util/Arrays", name := "copyOfRange", desc := "([BII)[B" } : Jvm.MethodName) jdk_65_method_132_code (3 : Nat) (Option.some (Jvm.ClassFile.FieldType.array Jvm.ClassFile.FieldType.byte))).before args0 about1 = true := code_word (m := ⟨4, 2⟩) (meth := k4m2) (c := k4c2) (by decide +kernel) rfl rfl rfl (by decide +kernel)
set_option maxRecDepth 65536 in
theorem w_c6 : (Jvm.Cond.code ({ cls := "java/util/Arrays", name := "copyOfRangeByte", desc := "([BII)[B" } : Jvm.MethodName) jdk_65_method_133_code (5 : Nat) (Option.some (Jvm.ClassFile.FieldType.array Jvm.ClassFile.FieldType.byte))).before args0 about1 = true := code_word (m := ⟨4, 3⟩) (meth := k4m3) (c := k4c3) (by decide +kernel) rfl rfl rfl (by decide +kernel)
set_option maxRecDepth 65536 in
theorem w_c7 : (Jvm.Cond.code ({ cls := "java/util/Arrays", name := "checkLength", desc := "(II)V" } : Jvm.MethodName) jdk_65_method_131_code (2 : Nat) (Option.none : Option Jvm.ClassFile.FieldType)).before args0 about1 = true := code_word (m := ⟨4, 1⟩) (meth := k4m1) (c := k4c1) (by decide +kernel) rfl rfl rfl (by decide +kernel)
set_option maxRecDepth 65536 in
theorem w_c8 : (Jvm.Cond.code ({ cls := "java/lang/Math", name := "min", desc := "(II)I" } : Jvm.MethodName) jdk_29_method_69_code (2 : Nat) (Option.some Jvm.ClassFile.FieldType.int)).before args0 about1 = true := code_word (m := ⟨5, 1⟩) (meth := k5m1) (c := k5c1) (by decide +kernel) rfl rfl rfl (by decide +kernel)
set_option maxRecDepth 65536 in
theorem w_c9 : (Jvm.Cond.code ({ cls := "com/example/objwire/objwire/rpc/PduTokenPinLaw", name := "at", desc := "([BIIJ)Z" } : Jvm.MethodName) method_3_code (6 : Nat) (Option.some Jvm.ClassFile.FieldType.boolean)).before args0 about1 = true := code_word (m := ⟨1, 2⟩) (meth := k1m2) (c := k1c2) (by decide +kernel) rfl rfl rfl (by decide +kernel)
def codes1 : List Jvm.Cond := [Jvm.Cond.code x code maxLocals ret, Jvm.Cond.code ({ cls := "com/example/objwire/objwire/rpc/Pdu", name := "<init>", desc := "(III[BI)V" } : Jvm.MethodName) prog_106_method_2_code (6 : Nat) (Option.none : Option Jvm.ClassFile.FieldType), Jvm.Cond.code ({ cls := "java/lang/Record", name := "<init>", desc := "()V" } : Jvm.MethodName) jdk_30_method_1_code (1 : Nat) (Option.none : Option Jvm.ClassFile.FieldType), Jvm.Cond.code ({ cls := "java/lang/Object", name := "<init>", desc := "()V" } : Jvm.MethodName) object_method_1_code (1 : Nat) (Option.none : Option Jvm.ClassFile.FieldType), Jvm.Cond.code ({ cls := "com/example/objwire/objwire/rpc/Pdu", name := "token", desc := "()[B" } : Jvm.MethodName) prog_106_method_8_code (1 : Nat) (Option.some (Jvm.ClassFile.FieldType.array Jvm.ClassFile.FieldType.byte)), Jvm.Cond.code ({ cls := "java/util/Arrays", name := "copyOfRange", desc := "([BII)[B" } : Jvm.MethodName) jdk_65_method_132_code (3 : Nat) (Option.some (Jvm.ClassFile.FieldType.array Jvm.ClassFile.FieldType.byte)), Jvm.Cond.code ({ cls := "java/util/Arrays", name := "copyOfRangeByte", desc := "([BII)[B" } : Jvm.MethodName) jdk_65_method_133_code (5 : Nat) (Option.some (Jvm.ClassFile.FieldType.array Jvm.ClassFile.FieldType.byte)), Jvm.Cond.code ({ cls := "java/util/Arrays", name := "checkLength", desc := "(II)V" } : Jvm.MethodName) jdk_65_method_131_code (2 : Nat) (Option.none : Option Jvm.ClassFile.FieldType), Jvm.Cond.code ({ cls := "java/lang/Math", name := "min", desc := "(II)I" } : Jvm.MethodName) jdk_29_method_69_code (2 : Nat) (Option.some Jvm.ClassFile.FieldType.int), Jvm.Cond.code ({ cls := "com/example/objwire/objwire/rpc/PduTokenPinLaw", name := "at", desc := "([BIIJ)Z" } : Jvm.MethodName) method_3_code (6 : Nat) (Option.some Jvm.ClassFile.FieldType.boolean)]
set_option maxRecDepth 65536 in
theorem codes_eq : words1.filter isCode = codes1 := rfl
theorem w_codes : ∀ c ∈ words1.filter isCode, c.before args0 about1 = true := by
  rw [codes_eq]
  intro c hc
  simp only [codes1, List.mem_cons, List.not_mem_nil, or_false] at hc
  rcases hc with rfl | rfl | rfl | rfl | rfl | rfl | rfl | rfl | rfl | rfl
  · exact w_c0
  · exact w_c1
  · exact w_c2
  · exact w_c3
  · exact w_c4
  · exact w_c5
  · exact w_c6
  · exact w_c7
  · exact w_c8
  · exact w_c9
set_option maxRecDepth 65536 in
theorem w_t1 : (words1.take 24).all (fun c => isCode c || c.before args0 about1) = true := by decide +kernel
set_option maxRecDepth 65536 in
theorem w_t2 : ((words1.drop 24).take 24).all (fun c => isCode c || c.before args0 about1) = true := by decide +kernel
set_option maxRecDepth 65536 in
theorem w_t3 : ((words1.drop 24).drop 24).all (fun c => isCode c || c.before args0 about1) = true := by decide +kernel
theorem w_tables : (allAtoms (Jvm.Cond.code x code maxLocals ret :: tables_1)).before args0 about1 = true := by
  rw [allAtoms_all]
  show words1.all (fun c => c.before args0 about1) = true
  refine all_split ?_ w_codes
  rw [← List.take_append_drop 24 words1, List.all_append, w_t1, ← List.take_append_drop 24 (words1.drop 24), List.all_append, w_t2, w_t3]
  rfl
set_option maxRecDepth 65536 in
theorem w_case : (Jvm.Cond.and given_1 narrow_1).before args0 about1 = true := by decide +kernel
theorem w_applies : (headSpec (Jvm.Cond.code x code maxLocals ret :: tables_1) room_1).applies x e0.platform about1 = true :=
  (Spec.applies_iff w_frames).mpr ⟨w_running, w_runnable, w_alone, w_named, w_hears, w_ripe, w_room, w_tables⟩
theorem atStart : AtStart classFile x code maxLocals ret World_1 tables_1 room_1 Calls_1 rest_1 Pre_1 launch0 p0 e0 about1 theMethod args0 below0 :=
  ⟨lists_1, trivial, launch0.admits_env _ _ _, launch0.least_env, fairChoices_fair.cas, fairChoices_fair.clock, w_frames, w_args, w_heap, w_applies, trivial, trivial, w_case⟩
end start1
theorem witness_1 : WitnessClaimed_1 := ⟨start1.p0, start1.e0, start1.about1, start1.theMethod, start1.args0, start1.below0, start1.atStart⟩
end Jvm.Pilot.@@N@@
