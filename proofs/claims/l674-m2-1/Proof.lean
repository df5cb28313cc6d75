import JvmDerived
import JvmDerived.Pilot.@@N@@Statement
import JvmDerived.Pilot.@@N@@Code
set_option linter.unusedVariables false
set_option linter.unusedSimpArgs false
namespace Jvm.RoadKit
open Sem ClassFile Op Lib Jvm.Stand Jvm.Free Jvm.LawKit
section New
variable {p : Program} {l : Launch} {e : Env} {R : Room} {s : State} {m : MethodId} {args : Array Value} {below : List Frame} {meth : Method} {c : Code} {T : State} {locs : List Loc} {cells slots : Nat}
theorem retI (X : Stand p l e R s m args below meth c T locs cells slots) (hx : p.tables.exec = Jvm.exec) {pc : Nat} {Ls : Array Slot} {z : Int32} {rest : List Value} (hret : meth.sig.returnType = some .int) (hd : decode c.code pc = .ok (.ireturn, 1)) {fs : List Frame}
    (hl : ∀ (f : JFrame) (acts : List Action), f.method = m → f.locked = none → f.entered = [] → (doReturn e (T.setTop f) acts (some (.int z))).1 = T.setFrames fs) : Steps p.tables e below (T.setTop (mkF m pc Ls (.int z :: rest))) (T.setFrames fs) := by
  have hm' : T.vm.method? m = some meth := X.method'
  have hn : narrow .int (.int z) = .int z := rfl
  show Steps p.tables e below (T.setTop { method := m, pc := pc, locals := Ls, stack := _ :: rest, locked := none }) _
  jvm_step X.here [X.here.top, hx, hd, hm', hret, hn]
  first | (intro acts; rw [hl _ acts rfl rfl rfl]) | rw [hl _ _ rfl rfl rfl]
  exact Steps.refl _
end New
end Jvm.RoadKit
namespace Jvm.Pilot.@@N@@
open Jvm Jvm.ClassFile Sem Op Lib Jvm.Free Jvm.Stand Jvm.LawKit Jvm.RoadKit Bundle Jvm.Pilot.@@N@@.Jvm.D
/-- what is still to come: from the frame g at T the run comes to an end that Q takes -/
def own_WP (p : Program) (e : Env) (below : List Frame) (Q : Outcome → State → Prop) (T : State) (g : JFrame) : Prop :=
  ∃ s₂ o, Steps p.tables e below (T.setTop g) s₂ ∧ s₂.status = .running ∧ Ended s₂ below o ∧ Q o s₂
def own_Q (s : State) (P : Option Value → Heap → List Loc → Prop) (C S : Nat) (o : Outcome) (U : State) : Prop :=
  ∃ v L, o = .returned v ∧ P v U.heap L ∧ FrameEnd s o U L C S
def own_Ctx (p : Program) (s : State) (m : MethodId) (meth : Method) (c : Code) (Z : State) (y : MethodName) (bytes : ByteArray) (maxL : Nat) (rt : Option FieldType) : Prop :=
  p.tables.exec = Jvm.exec ∧ Z.Warmed39 s.vm ∧ c.code = bytes ∧ c.maxLocals = maxL ∧ s.vm.findClass y.cls = some m.cls ∧ meth.name = y.name ∧ meth.sig.returnType = rt ∧ meth.locks = false
def own_Met (l : Launch) (Z : State) (y : MethodName) (bytes : ByteArray) (maxL : Nat) (rt : Option FieldType) (ws : List Jvm.Cond) (rm : Room) (as' : Array Value) (h : Heap) (P : Option Value → Heap → List Loc → Prop) : Prop :=
  MetFree l y (head1 (Jvm.Cond.code y bytes maxL rt :: ws) rm) (fun a U => a = as' ∧ Z.Warmed39 U.vm ∧ U.heap = h) (fun _ _ _ _ _ => True) (fun _ U o U' => ∃ v L, o = .returned v ∧ P v U'.heap L ∧ FrameEnd U o U' L rm.cells rm.slots)
section Own
variable {p : Program} {l : Launch} {e : Env} {R : Room} {s : State} {m : MethodId} {args : Array Value} {below : List Frame} {meth : Method} {c : Code} {T T' : State} {locs : List Loc} {cells slots : Nat} {Z : State} {a0 : Array Value} {y : MethodName} {bytes : ByteArray} {maxL : Nat} {rt : Option FieldType} {P : Option Value → Heap → List Loc → Prop} {Q : Outcome → State → Prop}
theorem own_go {g g' : JFrame} (st : ∀ t, Steps p.tables e below (T'.setTop g') t → Steps p.tables e below (T.setTop g) t) (h : own_WP p e below Q T' g') : own_WP p e below Q T g := by
  obtain ⟨s₂, o, h1, h2⟩ := h
  exact ⟨s₂, o, st _ h1, h2⟩
theorem own_body {ws : List Jvm.Cond} {rm : Room} {as' : Array Value} {h : Heap} (hp : plainFor y = true)
    (body : ∀ p e s m below meth c s₁, own_Ctx p s m meth c Z y bytes maxL rt → Stand p l e rm s m as' below meth c s₁ [] 0 0 → s₁.heap = h → own_WP p e below (own_Q s P rm.cells rm.slots) s₁ (entryFrame m as' maxL)) :
    own_Met l Z y bytes maxL rt ws rm as' h P := by
  refine MetFree.of_bodySF hp hisR ?_
  intro p e s m args below meth c s₁ Bd hml0 hP hK
  obtain ⟨rfl, hZ, hh⟩ := hP
  exact body p e s m below meth c s₁ ⟨Bd.exec, hZ, Bd.bytes, hml0, findClass_of_methodNamed Bd.named, (name_of_methodNamed Bd.named Bd.method).1, Bd.returns, Bd.notSynchronized⟩ (Stand.of_body Bd) (by rw [← hh, Bd.state]; rfl)
theorem own_cast {g g' : JFrame} (q : g = g') (k : own_WP p e below Q T g') : own_WP p e below Q T g := q ▸ k
theorem own_retI (X : Stand p l e R s m args below meth c T locs cells slots) (C : own_Ctx p s m meth c Z y bytes maxL (some .int)) {pc : Nat} {Ls : Array Slot} {z : Int32} {rest : List Value} {CC SS : Nat}
    (hd : decode c.code pc = .ok (.ireturn, 1)) (hP : P (some (.int z)) T.heap locs) (hc : cells ≤ CC) (hs : slots ≤ SS) : own_WP p e below (own_Q s P CC SS) T (mkF m pc Ls (.int z :: rest)) := by
  obtain ⟨hx, -, -, -, -, -, hr, hlk⟩ := C
  obtain ⟨fs, hrr, hrun, hended, hW, hsame⟩ := X.leave (v := some (.int z)) (fun h => by rw [hr] at h; cases h) hlk
  exact ⟨_, _, retI X hx hr hd hrr, hrun, hended, _, _, rfl, hP, ⟨_, rfl⟩, hW, hsame.mono hc hs⟩
theorem own_retN {t : FieldType} (X : Stand p l e R s m args below meth c T locs cells slots) (C : own_Ctx p s m meth c Z y bytes maxL (some t)) (ht : t = .boolean ∨ t = .byte ∨ t = .char ∨ t = .short) {pc : Nat} {Ls : Array Slot} {z : Int32} {rest : List Value} {CC SS : Nat}
    (hd : decode c.code pc = .ok (.ireturn, 1)) (hP : P (some (.int (nar t z))) T.heap locs) (hc : cells ≤ CC) (hs : slots ≤ SS) : own_WP p e below (own_Q s P CC SS) T (mkF m pc Ls (.int z :: rest)) := by
  obtain ⟨hx, -, -, -, -, -, hr, hlk⟩ := C
  obtain ⟨fs, hrr, hrun, hended, hW, hsame⟩ := X.leave (v := some (.int (nar t z))) (fun h => by rw [hr] at h; cases h) hlk
  exact ⟨_, _, retN X hx hr ht hd hrr, hrun, hended, _, _, rfl, hP, ⟨_, rfl⟩, hW, hsame.mono hc hs⟩
theorem own_retL (X : Stand p l e R s m args below meth c T locs cells slots) (C : own_Ctx p s m meth c Z y bytes maxL (some .long)) {pc : Nat} {Ls : Array Slot} {z : Int64} {CC SS : Nat}
    (hd : decode c.code pc = .ok (.lreturn, 1)) (hP : P (some (.long z)) T.heap locs) (hc : cells ≤ CC) (hs : slots ≤ SS) : own_WP p e below (own_Q s P CC SS) T (mkF m pc Ls [.long z]) := by
  obtain ⟨hx, -, -, -, -, -, hr, hlk⟩ := C
  obtain ⟨fs, hrr, hrun, hended, hW, hsame⟩ := X.leave (v := some (.long z)) (fun h => by rw [hr] at h; cases h) hlk
  exact ⟨_, _, X.lreturnOut hx hr hd hrr, hrun, hended, _, _, rfl, hP, ⟨_, rfl⟩, hW, hsame.mono hc hs⟩
theorem own_retV (X : Stand p l e R s m args below meth c T locs cells slots) (C : own_Ctx p s m meth c Z y bytes maxL none) {pc : Nat} {Ls : Array Slot} {CC SS : Nat}
    (hd : decode c.code pc = .ok (.return_, 1)) (hP : P none T.heap locs) (hc : cells ≤ CC) (hs : slots ≤ SS) : own_WP p e below (own_Q s P CC SS) T (mkF m pc Ls []) := by
  obtain ⟨hx, -, -, -, -, -, hr, hlk⟩ := C
  obtain ⟨fs, hrr, hrun, hended, hW, hsame⟩ := X.leave (v := none) (fun _ => rfl) hlk
  exact ⟨_, _, X.returnOut hx hr hd hrr, hrun, hended, _, _, rfl, hP, ⟨_, rfl⟩, hW, hsame.mono hc hs⟩
theorem own_retA {t : FieldType} (X : Stand p l e R s m args below meth c T locs cells slots) (C : own_Ctx p s m meth c Z y bytes maxL (some t)) (ht : t.isReference = true) {pc : Nat} {Ls : Array Slot} {a : Addr} {CC SS : Nat}
    (hd : decode c.code pc = .ok (.areturn, 1)) (hP : P (some (.ref a)) T.heap locs) (hc : cells ≤ CC) (hs : slots ≤ SS) : own_WP p e below (own_Q s P CC SS) T (mkF m pc Ls [.ref a]) := by
  obtain ⟨hx, -, -, -, -, -, hr, hlk⟩ := C
  obtain ⟨fs, hrr, hrun, hended, hW, hsame⟩ := X.leave (v := some (.ref a)) (fun h => by rw [hr] at h; cases h) hlk
  exact ⟨_, _, X.areturnOut hx rfl hr ht hd hrr, hrun, hended, _, _, rfl, hP, ⟨_, rfl⟩, hW, hsame.mono hc hs⟩
/-- a static call by the callee's contract -/
theorem own_callS (X : Stand p l e R s m args below meth c T locs cells slots) (C : own_Ctx p s m meth c Z y bytes maxL rt) {idx : Nat} {y' : MethodName} {bytes' : ByteArray} {maxL' : Nat} {rt' : Option FieldType} {rm' : Room} {argsL rest : List Value} {h : Heap} {P' : Option Value → Heap → List Loc → Prop}
    (hM : own_Met l Z y' bytes' maxL' rt' [] rm' argsL.toArray h P') (w1 : (Cond.methodLink y.cls idx y').before a0 Z = true) (w2 : (Cond.static y').before a0 Z = true) (w3 : (Cond.initialized y'.cls).before a0 Z = true) (w4 : (Cond.code y' bytes' maxL' rt').before a0 Z = true)
    (hy : y'.cls ≠ "java/lang/invoke/MethodHandle" ∧ y'.cls ≠ "java/lang/invoke/VarHandle") (eT : T.heap = h) {W : Nat} {pc : Nat} {Ls : Array Slot} (hsz : Ls.size = maxL) (hlen : ∀ sig, parseMethodDescriptor y'.desc = some sig → argsL.length = sig.parameters.length)
    {stk : List Value} (hst : stk = argsL.reverse ++ rest) (hW : (rest.map fun v => v.category).sum ≤ W) (hd : decode c.code pc = .ok (.invokestatic idx, 3))
    (hf : rm'.frames + 1 ≤ R.frames) (hl : W + (maxL' + 11) + rm'.locals ≤ R.locals) (hc : cells + rm'.cells ≤ R.cells) (hs : slots + rm'.slots ≤ R.slots) :
    ∃ T' v L, Stand p l e R s m args below meth c T' (locs ++ L) (cells + rm'.cells) (slots + rm'.slots) ∧ P' v T'.heap L ∧ ∀ t, Steps p.tables e below (T'.setTop (mkF m (pc + 3) Ls (v.toList ++ rest))) t → Steps p.tables e below (T.setTop (mkF m pc Ls stk)) t := by
  obtain ⟨hx, hZ, hby, hml, hown, hnm, hr, hlk⟩ := C
  obtain ⟨v, _, ⟨T', L', k', n'⟩, -, X', ⟨L, hQ, hl', hk', hn'⟩, st⟩ := Jvm.LawKit.callS X hx (y := y') hown (mvT hZ w1) (mvT hZ w2) (mvT hZ w3) (mvT hZ w4) hy (backOf (W := W) hM hZ w4 w3 hf hl) (g := mkF m pc Ls stk) rfl (by rw [hml]; exact hsz) (argsL := argsL) (rest := rest) hlen hst (by show 2 * 0 + _ ≤ _; omega) hd (fun _ _ => ⟨rfl, eT, hc, hs⟩)
  dsimp only [Pt.U, Pt.locs, Pt.cells, Pt.slots] at X' hl' hk' hn' st hQ
  subst hl' hk' hn'
  exact ⟨T', v, L, X', hQ, st⟩
/-- a constructor by its contract -/
theorem own_callN (X : Stand p l e R s m args below meth c T locs cells slots) (C : own_Ctx p s m meth c Z y bytes maxL rt) {idx : Nat} {y' : MethodName} {bytes' : ByteArray} {maxL' : Nat} {rm' : Room} {a : Addr} {argsL rest : List Value} {h : Heap} {P' : Option Value → Heap → List Loc → Prop}
    (hM : own_Met l Z y' bytes' maxL' none [] rm' (.ref a :: argsL).toArray h P') (hyn : y'.name = "<init>") (w1 : (Cond.methodLink y.cls idx y').before a0 Z = true) (w2 : (Cond.instanceMethod y').before a0 Z = true) (w3 : (Cond.initialized y'.cls).before a0 Z = true) (w4 : (Cond.code y' bytes' maxL' none).before a0 Z = true)
    (hy : y'.cls ≠ "java/lang/invoke/MethodHandle" ∧ y'.cls ≠ "java/lang/invoke/VarHandle") (eT : T.heap = h) {W : Nat} {pc : Nat} {Ls : Array Slot} (hsz : Ls.size = maxL) (hlen : ∀ sig, parseMethodDescriptor y'.desc = some sig → argsL.length = sig.parameters.length)
    {stk : List Value} (hst : stk = argsL.reverse ++ .ref a :: rest) (hW : (rest.map fun v => v.category).sum ≤ W) (hd : decode c.code pc = .ok (.invokespecial idx, 3))
    (hf : rm'.frames + 1 ≤ R.frames) (hl : W + (maxL' + 11) + rm'.locals ≤ R.locals) (hc : cells + rm'.cells ≤ R.cells) (hs : slots + rm'.slots ≤ R.slots) :
    ∃ T' v L, Stand p l e R s m args below meth c T' (locs ++ L) (cells + rm'.cells) (slots + rm'.slots) ∧ P' v T'.heap L ∧ ∀ t, Steps p.tables e below (T'.setTop (mkF m (pc + 3) Ls (v.toList ++ rest))) t → Steps p.tables e below (T.setTop (mkF m pc Ls stk)) t := by
  obtain ⟨hx, hZ, hby, hml, hown, hnm, hr, hlk⟩ := C
  obtain ⟨v, _, ⟨T', L', k', n'⟩, -, X', ⟨L, hQ, hl', hk', hn'⟩, st⟩ := X.specialBack hx (y := y') hyn hown (mvT hZ w1) (mvT hZ w2) (mvT hZ w4) hy (backOf (W := W) hM hZ w4 w3 hf hl) (g := mkF m pc Ls stk) rfl (by rw [hml]; exact hsz) (Steps.refl _) (a := a) (argsL := argsL) (rest := rest) hlen hst (by show 2 * 0 + _ ≤ _; omega) hd (fun _ _ => ⟨rfl, eT, hc, hs⟩)
  dsimp only [Pt.U, Pt.locs, Pt.cells, Pt.slots] at X' hl' hk' hn' st hQ
  subst hl' hk' hn'
  exact ⟨T', v, L, X', hQ, fun t k => st.trans k⟩
/-- an instance method by the contract of the body that is selected (the class that declares it is the receiver's own) -/
theorem own_callV (X : Stand p l e R s m args below meth c T locs cells slots) (C : own_Ctx p s m meth c Z y bytes maxL rt) {idx : Nat} {y' : MethodName} {bytes' : ByteArray} {maxL' : Nat} {rt' : Option FieldType} {rm' : Room} {a : Addr} {argsL rest : List Value} {h : Heap} {P' : Option Value → Heap → List Loc → Prop}
    (hM : own_Met l Z y' bytes' maxL' rt' [] rm' (.ref a :: argsL).toArray h P') (w1 : (Cond.methodLink y.cls idx y').before a0 Z = true) (wd : (Cond.declares y').before a0 Z = true) (wsel : (Cond.selects y'.cls y' y').before a0 Z = true) (w2 : (Cond.instanceMethod y').before a0 Z = true) (w3 : (Cond.initialized y'.cls).before a0 Z = true) (w4 : (Cond.code y' bytes' maxL' rt').before a0 Z = true)
    (hy : y'.cls ≠ "java/lang/invoke/MethodHandle" ∧ y'.cls ≠ "java/lang/invoke/VarHandle") (eT : T.heap = h) (E : Exa Z h a y'.cls) {W : Nat} {pc : Nat} {Ls : Array Slot} (hsz : Ls.size = maxL) (hlen : ∀ sig, parseMethodDescriptor y'.desc = some sig → argsL.length = sig.parameters.length)
    {stk : List Value} (hst : stk = argsL.reverse ++ .ref a :: rest) (hW : (rest.map fun v => v.category).sum ≤ W) (hd : decode c.code pc = .ok (.invokevirtual idx, 3))
    (hf : rm'.frames + 1 ≤ R.frames) (hl : W + (maxL' + 11) + rm'.locals ≤ R.locals) (hc : cells + rm'.cells ≤ R.cells) (hs : slots + rm'.slots ≤ R.slots) :
    ∃ T' v L, Stand p l e R s m args below meth c T' (locs ++ L) (cells + rm'.cells) (slots + rm'.slots) ∧ P' v T'.heap L ∧ ∀ t, Steps p.tables e below (T'.setTop (mkF m (pc + 3) Ls (v.toList ++ rest))) t → Steps p.tables e below (T.setTop (mkF m pc Ls stk)) t := by
  obtain ⟨hx, hZ, hby, hml, hown, hnm, hr, hlk⟩ := C
  obtain ⟨cq, kq, qa, qb, qc⟩ := isOf hZ eT E
  obtain ⟨v, _, ⟨T', L', k', n'⟩, -, X', ⟨L, hQ, hl', hk', hn'⟩, st⟩ := X.virtualBack hx (y := y') (z := y') hown (mvT hZ w1) (mvT hZ wd) (notFace_of_selects (args := #[]) (mvT hZ wsel)) (mvT hZ wsel) (mvT hZ w2) hy (backOf (W := W) hM hZ w4 w3 hf hl) qa qc (g := mkF m pc Ls stk) rfl (by rw [hml]; exact hsz) (Steps.refl _) (argsL := argsL) (rest := rest) hlen hst (by show 2 * 0 + _ ≤ _; omega) hd (fun _ _ => ⟨rfl, eT, hc, hs⟩)
  dsimp only [Pt.U, Pt.locs, Pt.cells, Pt.slots] at X' hl' hk' hn' st hQ
  subst hl' hk' hn'
  exact ⟨T', v, L, X', hQ, fun t k => st.trans k⟩
end Own
end Jvm.Pilot.@@N@@
namespace Jvm.Pilot.@@N@@
open Jvm Jvm.ClassFile Sem Op Lib Jvm.Free Jvm.Stand Jvm.LawKit Jvm.RoadKit Bundle Jvm.Pilot.@@N@@.Jvm.D
/-- the array at b holds just vs -/
def own_A (Z : State) (h : Heap) (b : Addr) (ty : FieldType) (vs : List Value) : Prop := Exa Z h b ("[" ++ ty.toString) ∧ ∃ c : Cell, Arr Z h b c ty ∧ c.slots = vs.toArray ∧ vs.length < 2147483648 ∧ ∀ v ∈ vs, fits ty v = true
def own_AI (Z : State) (h : Heap) (b : Addr) (ty : FieldType) (vs : List Int32) : Prop := own_A Z h b ty (vs.map Value.int)
def own_AJ (Z : State) (h : Heap) (b : Addr) (ty : FieldType) (vs : List Int64) : Prop := own_A Z h b ty (vs.map Value.long)
def own_get {α : Type} (vs : List α) (j : Int32) : Option α := if j < 0 then none else vs[j.toNatClampNeg]?
def own_set {α : Type} (vs : List α) (j : Int32) (x : α) : Option (List α) := if j < 0 then none else if j.toNatClampNeg < vs.length then some (vs.set j.toNatClampNeg x) else none
theorem own_bind {α β : Type} {o : Option α} {f : α → Option β} {r : β} (h : o.bind f = some r) : ∃ v, o = some v ∧ f v = some r := by
  cases o with
  | none => cases h
  | some v => exact ⟨v, rfl, h⟩
def own_let {α β : Type} (a : α) (f : α → β) : β := f a
theorem own_letE {α β : Type} {a : α} {f : α → β} {r : β} (h : own_let a f = r) : f a = r := h
theorem own_ne {a b : Nat} (h : a < b ∨ b < a) : @Ne Addr a b := by
  intro e
  rcases h with h | h
  · exact Nat.lt_irrefl _ (e ▸ h)
  · exact Nat.lt_irrefl _ (e ▸ h)
theorem own_cap {n : Int32} {c : Int} {k : Nat} (hk : c = (k : Int)) (h : ¬ c < n.toInt) : n.toNatClampNeg ≤ k := by
  have q : n.toNatClampNeg = n.toInt.toNat := rfl
  rw [q]; omega
theorem own_acEq {a b : Nat} (h : a < b ∨ b < a) : if_acmp.holds .eq (some a) (some b) = false := by
  have q : a ≠ b := by omega
  simp [if_acmp.holds, q]
theorem own_acNe {a b : Nat} (h : a < b ∨ b < a) : if_acmp.holds .ne (some a) (some b) = true := by
  have q : a ≠ b := by omega
  simp [if_acmp.holds, q]
theorem own_acEqS {a : Nat} : if_acmp.holds .eq (some a) (some a) = true := by simp [if_acmp.holds]
theorem own_acNeS {a : Nat} : if_acmp.holds .ne (some a) (some a) = false := by simp [if_acmp.holds]
section Own
variable {p : Program} {l : Launch} {e : Env} {R : Room} {s : State} {m : MethodId} {args : Array Value} {below : List Frame} {meth : Method} {c : Code} {T T' : State} {locs : List Loc} {cells slots : Nat} {Z : State} {a0 : Array Value} {y : MethodName} {bytes : ByteArray} {maxL : Nat} {rt : Option FieldType} {h h' : Heap} {a b : Addr} {ty : FieldType}
theorem own_A.lt {vs : List Value} (F : own_A Z h b ty vs) : b < h.size := by obtain ⟨E, c, A, -⟩ := F; exact A.lt
theorem own_A.ext {vs : List Value} (F : own_A Z h b ty vs) (E : Ext h h') : own_A Z h' b ty vs := by obtain ⟨Q, c, A, r⟩ := F; exact ⟨Q.ext E, c, A.ext E, r⟩
theorem own_A.other {vs : List Value} {sl : Nat} {v : Value} (F : own_A Z h b ty vs) (W : Wr h h' a sl v) (q : b ≠ a) : own_A Z h' b ty vs := by obtain ⟨Q, c, A, r⟩ := F; exact ⟨Q.wr W, c, A.other W q, r⟩
theorem own_A.keep {vs : List Value} {ws : List Addr} (F : own_A Z h b ty vs) (K : Keep h h' ws) (q : b ∉ ws) : own_A Z h' b ty vs := by obtain ⟨Q, c, A, r⟩ := F; exact ⟨Q.keep K, c, ⟨K.2.1 b c A.1 q, A.2⟩, r⟩
theorem own_A.set {vs : List Value} {j : Nat} {v : Value} (F : own_A Z h b ty vs) (W : Wr h h' b j v) (hv : fits ty v = true) : own_A Z h' b ty (vs.set j v) := by
  obtain ⟨Q, c, A, r1, r2, r3⟩ := F
  refine ⟨Q.wr W, _, A.same W, ?_, by simpa using r2, ?_⟩
  · show c.slots.setIfInBounds j v = _
    rw [r1]; simp
  · intro u hu
    rcases List.mem_or_eq_of_mem_set hu with q | q
    · exact r3 u q
    · rw [q]; exact hv
theorem own_AI.lt {vs : List Int32} (F : own_AI Z h b ty vs) : b < h.size := own_A.lt F
theorem own_AI.ext {vs : List Int32} (F : own_AI Z h b ty vs) (E : Ext h h') : own_AI Z h' b ty vs := own_A.ext F E
theorem own_AI.other {vs : List Int32} {sl : Nat} {v : Value} (F : own_AI Z h b ty vs) (W : Wr h h' a sl v) (q : b ≠ a) : own_AI Z h' b ty vs := own_A.other F W q
theorem own_AI.keep {vs : List Int32} {ws : List Addr} (F : own_AI Z h b ty vs) (K : Keep h h' ws) (q : b ∉ ws) : own_AI Z h' b ty vs := own_A.keep F K q
theorem own_AJ.lt {vs : List Int64} (F : own_AJ Z h b ty vs) : b < h.size := own_A.lt F
theorem own_AJ.ext {vs : List Int64} (F : own_AJ Z h b ty vs) (E : Ext h h') : own_AJ Z h' b ty vs := own_A.ext F E
theorem own_AJ.other {vs : List Int64} {sl : Nat} {v : Value} (F : own_AJ Z h b ty vs) (W : Wr h h' a sl v) (q : b ≠ a) : own_AJ Z h' b ty vs := own_A.other F W q
theorem own_AJ.keep {vs : List Int64} {ws : List Addr} (F : own_AJ Z h b ty vs) (K : Keep h h' ws) (q : b ∉ ws) : own_AJ Z h' b ty vs := own_A.keep F K q
theorem own_A.place {α : Type} {f : α → Value} {vs : List α} {j : Int32} {v : α} (F : own_A Z h b ty (vs.map f)) (g : own_get vs j = some v) : ∃ c : Cell, Arr Z h b c ty ∧ ¬ (j < 0 ∨ c.slots.size ≤ j.toNatClampNeg) ∧ c.slots[j.toNatClampNeg]? = some (f v) := by
  obtain ⟨-, c, A, r1, r2, -⟩ := F
  unfold own_get at g
  split at g
  · cases g
  · rename_i hj
    obtain ⟨hlt, hv⟩ := List.getElem?_eq_some_iff.mp g
    refine ⟨c, A, ?_, ?_⟩
    · rintro (q | q)
      · exact hj q
      · rw [r1] at q; simp at q; omega
    · rw [r1]; simp [g]
theorem own_A.room {α : Type} {f : α → Value} {vs vs' : List α} {j : Int32} {v : α} (F : own_A Z h b ty (vs.map f)) (g : own_set vs j v = some vs') : ∃ c : Cell, Arr Z h b c ty ∧ ¬ (j < 0 ∨ c.slots.size ≤ j.toNatClampNeg) ∧ vs' = vs.set j.toNatClampNeg v := by
  obtain ⟨-, c, A, r1, r2, -⟩ := F
  unfold own_set at g
  split at g
  · cases g
  · rename_i hj
    split at g
    · rename_i hlt
      refine ⟨c, A, ?_, (Option.some.inj g).symm⟩
      rintro (q | q)
      · exact hj q
      · rw [r1] at q; simp at q; omega
    · cases g
theorem own_iaload (X : Stand p l e R s m args below meth c T locs cells slots) (C : own_Ctx p s m meth c Z y bytes maxL rt) (eT : T.heap = h) {vs : List Int32} (F : own_AI Z h b .int vs) {j v : Int32} (g : own_get vs j = some v) {pc : Nat} {Ls : Array Slot} {rest : List Value} (hd : decode c.code pc = .ok (.iaload, 1)) :
    ∀ t, Steps p.tables e below (T.setTop (mkF m (pc + 1) Ls (.int v :: rest))) t → Steps p.tables e below (T.setTop (mkF m pc Ls (.int j :: .ref b :: rest))) t := by
  obtain ⟨hx, hZ, -⟩ := C
  obtain ⟨cl, A, hin, hat⟩ := own_A.place F g
  intro t k
  exact X.iaload hx (j := j) (v := .int v) (by rw [eT]; exact A.1) (State.isArrayOf_alike hZ.alike A.2.1) A.2.2 hin hat (g := mkF m pc Ls (.int j :: .ref b :: rest)) rfl rfl hd t k
theorem own_baload (X : Stand p l e R s m args below meth c T locs cells slots) (C : own_Ctx p s m meth c Z y bytes maxL rt) (eT : T.heap = h) {vs : List Int32} (F : own_AI Z h b .byte vs) {j v : Int32} (g : own_get vs j = some v) {pc : Nat} {Ls : Array Slot} {rest : List Value} (hd : decode c.code pc = .ok (.baload, 1)) :
    ∀ t, Steps p.tables e below (T.setTop (mkF m (pc + 1) Ls (.int v :: rest))) t → Steps p.tables e below (T.setTop (mkF m pc Ls (.int j :: .ref b :: rest))) t := by
  obtain ⟨hx, hZ, -⟩ := C
  obtain ⟨cl, A, hin, hat⟩ := own_A.place F g
  intro t k
  exact X.baloadBytes hx (j := j) (v := .int v) (by rw [eT]; exact A.1) (State.isArrayOf_alike hZ.alike A.2.1) A.2.2 hin hat (g := mkF m pc Ls (.int j :: .ref b :: rest)) rfl rfl hd t k
theorem own_laload (X : Stand p l e R s m args below meth c T locs cells slots) (C : own_Ctx p s m meth c Z y bytes maxL rt) (eT : T.heap = h) {vs : List Int64} (F : own_AJ Z h b .long vs) {j : Int32} {v : Int64} (g : own_get vs j = some v) {pc : Nat} {Ls : Array Slot} {rest : List Value} (hd : decode c.code pc = .ok (.laload, 1)) :
    ∀ t, Steps p.tables e below (T.setTop (mkF m (pc + 1) Ls (.long v :: rest))) t → Steps p.tables e below (T.setTop (mkF m pc Ls (.int j :: .ref b :: rest))) t := by
  obtain ⟨hx, hZ, -⟩ := C
  obtain ⟨cl, A, hin, hat⟩ := own_A.place F g
  intro t k
  exact X.laload hx (j := j) (v := .long v) (by rw [eT]; exact A.1) (State.isArrayOf_alike hZ.alike A.2.1) A.2.2 hin hat (g := mkF m pc Ls (.int j :: .ref b :: rest)) rfl rfl hd t k
theorem own_len (X : Stand p l e R s m args below meth c T locs cells slots) (C : own_Ctx p s m meth c Z y bytes maxL rt) (eT : T.heap = h) {vs : List Value} (F : own_A Z h b ty vs) {pc : Nat} {Ls : Array Slot} {rest : List Value} (hd : decode c.code pc = .ok (.arraylength, 1)) :
    ∀ t, Steps p.tables e below (T.setTop (mkF m (pc + 1) Ls (.int (Int32.ofNat vs.length) :: rest))) t → Steps p.tables e below (T.setTop (mkF m pc Ls (.ref b :: rest))) t := by
  obtain ⟨hx, hZ, -⟩ := C
  obtain ⟨-, cl, A, r1, r2, -⟩ := F
  intro t k
  refine X.arraylength hx (by rw [eT]; exact A.1) (State.isArrayOf_alike hZ.alike A.2.1) (g := mkF m pc Ls (.ref b :: rest)) rfl rfl hd t ?_
  have q : cl.slots.size.toInt32 = Int32.ofNat vs.length := by
    rw [r1, List.size_toArray]
  rw [q]; exact k
theorem own_lenI (X : Stand p l e R s m args below meth c T locs cells slots) (C : own_Ctx p s m meth c Z y bytes maxL rt) (eT : T.heap = h) {vs : List Int32} (F : own_AI Z h b ty vs) {pc : Nat} {Ls : Array Slot} {rest : List Value} (hd : decode c.code pc = .ok (.arraylength, 1)) :
    ∀ t, Steps p.tables e below (T.setTop (mkF m (pc + 1) Ls (.int (Int32.ofNat vs.length) :: rest))) t → Steps p.tables e below (T.setTop (mkF m pc Ls (.ref b :: rest))) t := by
  have k := own_len X C eT F (Ls := Ls) (rest := rest) hd
  rwa [List.length_map] at k
theorem own_lenJ (X : Stand p l e R s m args below meth c T locs cells slots) (C : own_Ctx p s m meth c Z y bytes maxL rt) (eT : T.heap = h) {vs : List Int64} (F : own_AJ Z h b ty vs) {pc : Nat} {Ls : Array Slot} {rest : List Value} (hd : decode c.code pc = .ok (.arraylength, 1)) :
    ∀ t, Steps p.tables e below (T.setTop (mkF m (pc + 1) Ls (.int (Int32.ofNat vs.length) :: rest))) t → Steps p.tables e below (T.setTop (mkF m pc Ls (.ref b :: rest))) t := by
  have k := own_len X C eT F (Ls := Ls) (rest := rest) hd
  rwa [List.length_map] at k
theorem own_iastore (X : Stand p l e R s m args below meth c T locs cells slots) (C : own_Ctx p s m meth c Z y bytes maxL rt) (eT : T.heap = h) {vs vs' : List Int32} (F : own_AI Z h b .int vs) {j x : Int32} (g : own_set vs j x = some vs') {pc : Nat} {Ls : Array Slot} {rest : List Value} (hd : decode c.code pc = .ok (.iastore, 1)) :
    ∃ T' h', Stand p l e R s m args below meth c T' (locs ++ [⟨b, j.toNatClampNeg⟩]) cells slots ∧ T'.heap = h' ∧ Wr h h' b j.toNatClampNeg (.int x) ∧ own_AI Z h' b .int vs' ∧
      ∀ t, Steps p.tables e below (T'.setTop (mkF m (pc + 1) Ls rest)) t → Steps p.tables e below (T.setTop (mkF m pc Ls (.int x :: .int j :: .ref b :: rest))) t := by
  obtain ⟨hx, hZ, -⟩ := C
  obtain ⟨cl, A, hin, rfl⟩ := own_A.room F g
  obtain ⟨T', h', X', e', W, st⟩ := stI X hx hZ eT A (j := j) (x := x) hin (g := mkF m pc Ls (.int x :: .int j :: .ref b :: rest)) rfl rfl hd
  refine ⟨T', h', X', e', W, ?_, st⟩
  have k := own_A.set F W rfl
  unfold own_AI
  rwa [List.map_set]
theorem own_lastore (X : Stand p l e R s m args below meth c T locs cells slots) (C : own_Ctx p s m meth c Z y bytes maxL rt) (eT : T.heap = h) {vs vs' : List Int64} (F : own_AJ Z h b .long vs) {j : Int32} {x : Int64} (g : own_set vs j x = some vs') {pc : Nat} {Ls : Array Slot} {rest : List Value} (hd : decode c.code pc = .ok (.lastore, 1)) :
    ∃ T' h', Stand p l e R s m args below meth c T' (locs ++ [⟨b, j.toNatClampNeg⟩]) cells slots ∧ T'.heap = h' ∧ Wr h h' b j.toNatClampNeg (.long x) ∧ own_AJ Z h' b .long vs' ∧
      ∀ t, Steps p.tables e below (T'.setTop (mkF m (pc + 1) Ls rest)) t → Steps p.tables e below (T.setTop (mkF m pc Ls (.long x :: .int j :: .ref b :: rest))) t := by
  obtain ⟨hx, hZ, -⟩ := C
  obtain ⟨cl, A, hin, rfl⟩ := own_A.room F g
  obtain ⟨T', h', X', e', W, st⟩ := stJ X hx hZ eT A (j := j) (x := x) hin (g := mkF m pc Ls (.long x :: .int j :: .ref b :: rest)) rfl rfl hd
  refine ⟨T', h', X', e', W, ?_, st⟩
  have k := own_A.set F W rfl
  unfold own_AJ
  rwa [List.map_set]
theorem own_bastore (X : Stand p l e R s m args below meth c T locs cells slots) (C : own_Ctx p s m meth c Z y bytes maxL rt) (eT : T.heap = h) {vs vs' : List Int32} (F : own_AI Z h b .byte vs) {j x : Int32} (g : own_set vs j (x.toInt8.toInt32) = some vs') {pc : Nat} {Ls : Array Slot} {rest : List Value} (hd : decode c.code pc = .ok (.bastore, 1)) :
    ∃ T' h', Stand p l e R s m args below meth c T' (locs ++ [⟨b, j.toNatClampNeg⟩]) cells slots ∧ T'.heap = h' ∧ Wr h h' b j.toNatClampNeg (.int (x.toInt8.toInt32)) ∧ own_AI Z h' b .byte vs' ∧
      ∀ t, Steps p.tables e below (T'.setTop (mkF m (pc + 1) Ls rest)) t → Steps p.tables e below (T.setTop (mkF m pc Ls (.int x :: .int j :: .ref b :: rest))) t := by
  obtain ⟨hx, hZ, -⟩ := C
  obtain ⟨cl, A, hin, rfl⟩ := own_A.room F g
  obtain ⟨T', h', X', e', W, st⟩ := stB X hx hZ eT A (j := j) (x := x) hin (g := mkF m pc Ls (.int x :: .int j :: .ref b :: rest)) rfl rfl hd
  refine ⟨T', h', X', e', W, ?_, st⟩
  have k := own_A.set F W (fits_nar_byte x)
  unfold own_AI
  rwa [List.map_set]
theorem own_newI (X : Stand p l e R s m args below meth c T locs cells slots) (C : own_Ctx p s m meth c Z y bytes maxL rt) (eT : T.heap = h) {aty : ArrayType} (hk : newarray.typeOf aty = ty) (hdv : defaultValue ty = .int 0) (hfz : fits ty (.int 0) = true) (w : (Cond.arrayClass ty).before a0 Z = true) {n : Int32} (hn : ¬ n < 0) {cap : Nat} (hcap : n.toNatClampNeg ≤ cap) (hb : cap * 8 ≤ 536870912) (hc : cells + 1 ≤ R.cells) (hl : slots + cap ≤ R.slots)
    {pc : Nat} {Ls : Array Slot} {rest : List Value} (hd : decode c.code pc = .ok (.newarray aty, 2)) :
    ∃ T' h' b, Stand p l e R s m args below meth c T' locs (cells + 1) (slots + cap) ∧ T'.heap = h' ∧ Ext h h' ∧ b = h.size ∧ own_AI Z h' b ty (List.replicate n.toNatClampNeg 0) ∧
      ∀ t, Steps p.tables e below (T'.setTop (mkF m (pc + 2) Ls (.ref b :: rest))) t → Steps p.tables e below (T.setTop (mkF m pc Ls (.int n :: rest))) t := by
  obtain ⟨hx, hZ, -⟩ := C
  subst hk
  obtain ⟨T', h', k, X', e', E, A, Q, st⟩ := newPE X hx hZ w eT (g := mkF m pc Ls (.int n :: rest)) rfl hd rfl hn (cap := cap) hcap hb hc hl rfl
  refine ⟨T', h', h.size, X', e', E, rfl, ⟨Q, _, A, ?_, ?_, ?_⟩, st⟩
  · show Array.replicate _ _ = _
    rw [hdv]; simp
  · rw [List.map_replicate, List.length_replicate]; omega
  · intro v hv
    rw [List.map_replicate] at hv
    rw [List.eq_of_mem_replicate hv]
    exact hfz
theorem own_newJ (X : Stand p l e R s m args below meth c T locs cells slots) (C : own_Ctx p s m meth c Z y bytes maxL rt) (eT : T.heap = h) {aty : ArrayType} (hk : newarray.typeOf aty = ty) (hdv : defaultValue ty = .long 0) (hfz : fits ty (.long 0) = true) (w : (Cond.arrayClass ty).before a0 Z = true) {n : Int32} (hn : ¬ n < 0) {cap : Nat} (hcap : n.toNatClampNeg ≤ cap) (hb : cap * 8 ≤ 536870912) (hc : cells + 1 ≤ R.cells) (hl : slots + cap ≤ R.slots)
    {pc : Nat} {Ls : Array Slot} {rest : List Value} (hd : decode c.code pc = .ok (.newarray aty, 2)) :
    ∃ T' h' b, Stand p l e R s m args below meth c T' locs (cells + 1) (slots + cap) ∧ T'.heap = h' ∧ Ext h h' ∧ b = h.size ∧ own_AJ Z h' b ty (List.replicate n.toNatClampNeg 0) ∧
      ∀ t, Steps p.tables e below (T'.setTop (mkF m (pc + 2) Ls (.ref b :: rest))) t → Steps p.tables e below (T.setTop (mkF m pc Ls (.int n :: rest))) t := by
  obtain ⟨hx, hZ, -⟩ := C
  subst hk
  obtain ⟨T', h', k, X', e', E, A, Q, st⟩ := newPE X hx hZ w eT (g := mkF m pc Ls (.int n :: rest)) rfl hd rfl hn (cap := cap) hcap hb hc hl rfl
  refine ⟨T', h', h.size, X', e', E, rfl, ⟨Q, _, A, ?_, ?_, ?_⟩, st⟩
  · show Array.replicate _ _ = _
    rw [hdv]; simp
  · rw [List.map_replicate, List.length_replicate]; omega
  · intro v hv
    rw [List.map_replicate] at hv
    rw [List.eq_of_mem_replicate hv]
    exact hfz
end Own
end Jvm.Pilot.@@N@@
namespace Jvm.Pilot.@@N@@
open Jvm Jvm.ClassFile Sem Op Lib Jvm.Free Jvm.Stand Jvm.LawKit Jvm.RoadKit Bundle Jvm.Pilot.@@N@@.Jvm.D
/-- System.arraycopy on lists -/
def own_copyL {α : Type} (vs : List α) (sp : Int32) (ws : List α) (dp n : Int32) : Option (List α) :=
  if sp < 0 ∨ dp < 0 ∨ n < 0 ∨ vs.length < sp.toNatClampNeg + n.toNatClampNeg ∨ ws.length < dp.toNatClampNeg + n.toNatClampNeg then none
  else some (ws.take dp.toNatClampNeg ++ (vs.drop sp.toNatClampNeg).take n.toNatClampNeg ++ ws.drop (dp.toNatClampNeg + n.toNatClampNeg))
section Own
variable {p : Program} {l : Launch} {e : Env} {R : Room} {s : State} {m : MethodId} {args : Array Value} {below : List Frame} {meth : Method} {c : Code} {T T' : State} {locs : List Loc} {cells slots : Nat} {Z : State} {a0 : Array Value} {y : MethodName} {bytes : ByteArray} {maxL : Nat} {rt : Option FieldType} {h h' : Heap} {a b : Addr} {ty : FieldType}
theorem own_n32 {n : Nat} (hn : n < 2147483648) : (Int32.ofNat n).toNatClampNeg = n ∧ ¬ Int32.ofNat n < 0 := by
  have q : (Int32.ofNat n).toInt = n := Int32.toInt_ofNat_of_lt (by show n < 2 ^ 31; omega)
  refine ⟨?_, ?_⟩
  · show (Int32.ofNat n).toInt.toNat = n
    rw [q]; rfl
  · rw [Int32.lt_iff_toInt_lt, q]
    show ¬ (n : Int) < 0
    omega
theorem own_A.arv {vs : List Value} (F : own_A Z h b ty vs) (dv : Value) : ∃ k, Arv Z h b k ty (Int32.ofNat vs.length) vs dv := by
  obtain ⟨-, c, A, r1, r2, r3⟩ := F
  obtain ⟨q1, q2⟩ := own_n32 r2
  have hsz : c.slots.size = vs.length := by rw [r1]; simp
  refine ⟨c.cls, c, A, rfl, by rw [q1, hsz], q2, ?_, ?_⟩
  · intro k hk
    rw [hsz] at hk
    rw [r1]
    simp [hk]
  · intro i hi
    rw [hsz] at hi
    have : vs.getD i dv = vs[i] := by simp [hi]
    rw [this]
    exact r3 _ (List.getElem_mem hi)
theorem own_Arv.back {vs : List Value} {k : ClassId} {dv : Value} (Q : Exa Z h b ("[" ++ ty.toString)) (F : Arv Z h b k ty (Int32.ofNat vs.length) vs dv) (hl : vs.length < 2147483648) : own_A Z h b ty vs := by
  obtain ⟨c, A, -, S, N, H, G⟩ := F
  obtain ⟨q1, q2⟩ := own_n32 hl
  rw [q1] at S
  refine ⟨Q, c, A, ?_, hl, ?_⟩
  · apply Array.ext
    · simp [S]
    · intro i h1 h2
      have w := H i h1
      rw [Array.getElem?_eq_getElem h1] at w
      have hi : i < vs.length := by rw [← S]; exact h1
      simp [hi] at w
      rw [w]; simp
  · intro v hv
    obtain ⟨i, hi, rfl⟩ := List.mem_iff_getElem.mp hv
    have w := G i (by rw [S]; exact hi)
    simpa [hi] using w
theorem own_range (vs : List Value) (dv : Value) (sp n : Nat) (hn : sp + n ≤ vs.length) : (vs.drop sp).take n = (List.range n).map fun i => vs.getD (sp + i) dv := by
  apply List.ext_getElem
  · simp; omega
  · intro i h1 h2
    have hi : sp + i < vs.length := by simp at h1; omega
    simp [hi]
theorem own_copy (X : Stand p l e R s m args below meth c T locs cells slots) (C : own_Ctx p s m meth c Z y bytes maxL rt) (eT : T.heap = h) {idx : Nat} (w1 : (Cond.methodLink y.cls idx Jvm.Stand.acN).before a0 Z = true) (w2 : (Cond.native Jvm.Stand.acN).before a0 Z = true) (w3 : (Cond.static Jvm.Stand.acN).before a0 Z = true) (w4 : (Cond.initialized "java/lang/System").before a0 Z = true)
    {vs ws us : List Int32} (hty : refKind ty = false) (F : own_AI Z h a ty vs) (G : own_AI Z h b ty ws) {sp dp n : Int32} (g : own_copyL vs sp ws dp n = some us) {n0 : Nat} (N : Fr n0 locs) (ge : n0 ≤ b)
    {pc : Nat} {Ls : Array Slot} (hsz : Ls.size = maxL) {rest : List Value} (hd : decode c.code pc = .ok (.invokestatic idx, 3)) (hf : 1 ≤ R.frames) {W : Nat} (hW : (rest.map fun v => v.category).sum ≤ W) (hlo : W + (nativeFrameWords "java/lang/System" "arraycopy" 5 + 11) ≤ R.locals) :
    ∃ T' h' L, Stand p l e R s m args below meth c T' L cells slots ∧ T'.heap = h' ∧ Fr n0 L ∧ Keep h h' [b] ∧ own_AI Z h' b ty us ∧
      ∀ t, Steps p.tables e below (T'.setTop (mkF m (pc + 3) Ls rest)) t → Steps p.tables e below (T.setTop (mkF m pc Ls (.int n :: .int dp :: .ref b :: .int sp :: .ref a :: rest))) t := by
  obtain ⟨hx, hZ, hby, hml, hown, hnm, hr, hlk⟩ := C
  unfold own_copyL at g
  split at g
  · cases g
  · rename_i hno
    simp only [not_or, Nat.not_lt] at hno
    obtain ⟨k1, k2, k3, k4, k5⟩ := hno
    obtain ⟨ka, A⟩ := own_A.arv F (.int 0)
    obtain ⟨kb, B⟩ := own_A.arv G (.int 0)
    have lF : (vs.map Value.int).length < 2147483648 := by obtain ⟨-, _, _, _, q, _⟩ := F; exact q
    have lG : (ws.map Value.int).length < 2147483648 := by obtain ⟨-, _, _, _, q, _⟩ := G; exact q
    obtain ⟨q1, -⟩ := own_n32 lF
    obtain ⟨q2, -⟩ := own_n32 lG
    obtain ⟨T', h', L, X', e', N', K, V, st⟩ := cpA X hx hZ hown w1 w2 w3 w4 eT A B (Or.inl ⟨rfl, hty⟩) (sp := sp) (dp := dp) (nn := n) k1 k2 k3 (by rw [q1, List.length_map]; exact k4) (by rw [q2, List.length_map]; exact k5) rfl (by rw [List.length_map]; exact k5) N ge (g := mkF m pc Ls (.int n :: .int dp :: .ref b :: .int sp :: .ref a :: rest)) rfl (by rw [hml]; exact hsz) rfl hd hf (W := W) (by show 2 * 0 + _ ≤ _; omega) hlo
    refine ⟨T', h', L, X', e', N', K, ?_, st⟩
    have e1 := own_range (vs.map Value.int) (.int 0) sp.toNatClampNeg n.toNatClampNeg (by rw [List.length_map]; exact k4)
    rw [← e1] at V
    have e2 : (ws.map Value.int).take dp.toNatClampNeg ++ ((vs.map Value.int).drop sp.toNatClampNeg).take n.toNatClampNeg ++ (ws.map Value.int).drop (dp.toNatClampNeg + n.toNatClampNeg) = us.map Value.int := by
      rw [← Option.some.inj g]
      simp [List.map_take, List.map_drop]
    rw [e2] at V
    have e3 : (us.map Value.int).length = (ws.map Value.int).length := by
      rw [← e2]; simp; omega
    rw [← e3] at V
    exact own_Arv.back (G.1.keep K) V (by rw [e3]; exact lG)
theorem own_clone (X : Stand p l e R s m args below meth c T locs cells slots) (C : own_Ctx p s m meth c Z y bytes maxL rt) (eT : T.heap = h) {idx : Nat} {ad : String} (had : "[" ++ ty.toString = ad) (w1 : (Cond.methodLink y.cls idx ⟨ad, "clone", "()Ljava/lang/Object;"⟩).before a0 Z = true) (w2 : (Cond.sameMethod ad "java/lang/Object" "clone" "()Ljava/lang/Object;").before a0 Z = true) (w3 : (Cond.native ⟨"java/lang/Object", "clone", "()Ljava/lang/Object;"⟩).before a0 Z = true)
    (w4 : (Cond.instanceMethod ⟨"java/lang/Object", "clone", "()Ljava/lang/Object;"⟩).before a0 Z = true) (w5 : (Cond.selects ad ⟨ad, "clone", "()Ljava/lang/Object;"⟩ ⟨"java/lang/Object", "clone", "()Ljava/lang/Object;"⟩).before a0 Z = true) (w6 : (Cond.castable ad "java/lang/Cloneable").before a0 Z = true)
    {vs : List Int32} (F : own_AI Z h a ty vs) {pc : Nat} {Ls : Array Slot} (hsz : Ls.size = maxL) {rest : List Value} (hd : decode c.code pc = .ok (.invokevirtual idx, 3)) (hf : 1 ≤ R.frames) {W cap : Nat} (hW : (rest.map fun v => v.category).sum ≤ W) (hl : W + 14 ≤ R.locals) (hcap : vs.length ≤ cap) (hc : cells + 1 ≤ R.cells) (hsl : slots + cap ≤ R.slots) :
    ∃ T' h' b, Stand p l e R s m args below meth c T' locs (cells + 1) (slots + cap) ∧ T'.heap = h' ∧ Ext h h' ∧ b = h.size ∧ own_AI Z h' b ty vs ∧
      ∀ t, Steps p.tables e below (T'.setTop (mkF m (pc + 3) Ls (.ref b :: rest))) t → Steps p.tables e below (T.setTop (mkF m pc Ls (.ref a :: rest))) t := by
  obtain ⟨hx, hZ, hby, hml, hown, hnm, hr, hlk⟩ := C
  subst had
  obtain ⟨k, A⟩ := own_A.arv F (.int 0)
  have lF : (vs.map Value.int).length < 2147483648 := by obtain ⟨-, _, _, _, q, _⟩ := F; exact q
  obtain ⟨q1, -⟩ := own_n32 lF
  obtain ⟨T', h', X', e', E, A', Q, st⟩ := cloneH X hx hZ hown w1 w2 w3 w4 w5 w6 eT (Arv.arh A) F.1 (g := mkF m pc Ls (.ref a :: rest)) rfl (by rw [hml]; exact hsz) rfl hd hf (W := W) (cap := cap) (by show 2 * 0 + _ ≤ _; omega) hl (by rw [q1, List.length_map]; exact hcap) hc hsl
  exact ⟨T', h', h.size, X', e', E, rfl, own_Arv.back Q A' lF, st⟩
theorem own_castA (X : Stand p l e R s m args below meth c T locs cells slots) (C : own_Ctx p s m meth c Z y bytes maxL rt) (eT : T.heap = h) {idx : Nat} {ad : String} (had : "[" ++ ty.toString = ad) (w : (Cond.classLink y.cls idx ad).before a0 Z = true) {vs : List Int32} (F : own_AI Z h a ty vs) {pc : Nat} {Ls : Array Slot} {rest : List Value} (hd : decode c.code pc = .ok (.checkcast idx, 3)) :
    ∃ T', Stand p l e R s m args below meth c T' locs cells slots ∧ T'.heap = h ∧ ∀ t, Steps p.tables e below (T'.setTop (mkF m (pc + 3) Ls (.ref a :: rest))) t → Steps p.tables e below (T.setTop (mkF m pc Ls (.ref a :: rest))) t := by
  obtain ⟨hx, hZ, hby, hml, hown, hnm, hr, hlk⟩ := C
  subst had
  exact castY X hx hZ hown w eT (Ins.self F.1) (g := mkF m pc Ls (.ref a :: rest)) rfl rfl hd
/-- a private method is the one that is selected: out of another method's word on the same class -/
theorem own_selP {y y2 : MethodName} (hc : y2.cls = y.cls) (w2 : (Cond.selects y2.cls y2 y2).before a0 Z = true) (wi : (Cond.instanceMethod y).before a0 Z = true) (wp : (Cond.privateMethod y).before a0 Z = true) (hy : y.cls ≠ "java/lang/invoke/MethodHandle" ∧ y.cls ≠ "java/lang/invoke/VarHandle") : (Cond.selects y.cls y y).before a0 Z = true := by
  obtain ⟨mk, methM, hnamed, hmethM, hstM, habM⟩ := Cond.instanceMethod_spec wi
  obtain ⟨c, r, m2, q1, q2, q3, q4, kP, hkP, hkPi⟩ := Cond.selects_spec w2
  have hf := State.methodFound?_of_named hnamed hy
  have e1 := findClass_of_methodNamed hnamed
  have e2 := findClass_of_methodNamed q3
  rw [hc] at e2
  have e3 : mk.cls = m2.cls := Option.some.inj (e1.symm.trans e2)
  have hsel : selectMethod {} Z.vm mk.cls mk = .method mk := selectMethod_private hmethM (Cond.privateMethod_at wp mk methM hnamed hmethM)
  rw [← e3] at hkP
  simp [Cond.before, Cond.holds, Cond.value, e1, hf, hnamed, hsel, hkP, hkPi]
/-- a private instance method by its contract -/
theorem own_callR (X : Stand p l e R s m args below meth c T locs cells slots) (C : own_Ctx p s m meth c Z y bytes maxL rt) {idx : Nat} {y' : MethodName} {bytes' : ByteArray} {maxL' : Nat} {rt' : Option FieldType} {rm' : Room} {a : Addr} {argsL rest : List Value} {h : Heap} {P' : Option Value → Heap → List Loc → Prop}
    (hM : own_Met l Z y' bytes' maxL' rt' [] rm' (.ref a :: argsL).toArray h P') (w1 : (Cond.methodLink y.cls idx y').before a0 Z = true) (wsel : (Cond.selects y'.cls y' y').before a0 Z = true) (wp : (Cond.privateMethod y').before a0 Z = true) (w2 : (Cond.instanceMethod y').before a0 Z = true) (w3 : (Cond.initialized y'.cls).before a0 Z = true) (w4 : (Cond.code y' bytes' maxL' rt').before a0 Z = true)
    (hy : y'.cls ≠ "java/lang/invoke/MethodHandle" ∧ y'.cls ≠ "java/lang/invoke/VarHandle") (eT : T.heap = h) {cn : String} (E : Exa Z h a cn) {W : Nat} {pc : Nat} {Ls : Array Slot} (hsz : Ls.size = maxL) (hlen : ∀ sig, parseMethodDescriptor y'.desc = some sig → argsL.length = sig.parameters.length)
    {stk : List Value} (hst : stk = argsL.reverse ++ .ref a :: rest) (hW : (rest.map fun v => v.category).sum ≤ W) (hd : decode c.code pc = .ok (.invokevirtual idx, 3))
    (hf : rm'.frames + 1 ≤ R.frames) (hl : W + (maxL' + 11) + rm'.locals ≤ R.locals) (hc : cells + rm'.cells ≤ R.cells) (hs : slots + rm'.slots ≤ R.slots) :
    ∃ T' v L, Stand p l e R s m args below meth c T' (locs ++ L) (cells + rm'.cells) (slots + rm'.slots) ∧ P' v T'.heap L ∧ ∀ t, Steps p.tables e below (T'.setTop (mkF m (pc + 3) Ls (v.toList ++ rest))) t → Steps p.tables e below (T.setTop (mkF m pc Ls stk)) t := by
  obtain ⟨hx, hZ, hby, hml, hown, hnm, hr, hlk⟩ := C
  obtain ⟨cq, q, q'⟩ := E.cell
  obtain ⟨v, _, ⟨T', L', k', n'⟩, -, X', ⟨L, hQ, hl', hk', hn'⟩, st⟩ := X.privateBack hx (y := y') hown (mvT hZ w1) (mvT hZ w2) (mvT hZ wsel) (Cond.privateMethod_at (mvP hZ wp (args := #[]))) (mvT hZ w4) hy (backOf (W := W) hM hZ w4 w3 hf hl) (g := mkF m pc Ls stk) rfl (by rw [hml]; exact hsz) (Steps.refl _) (a := a) (by rw [eT]; exact q) q' (argsL := argsL) (rest := rest) hlen hst (by show 2 * 0 + _ ≤ _; omega) hd (fun _ _ => ⟨rfl, eT, hc, hs⟩)
  dsimp only [Pt.U, Pt.locs, Pt.cells, Pt.slots] at X' hl' hk' hn' st hQ
  subst hl' hk' hn'
  exact ⟨T', v, L, X', hQ, fun t k => st.trans k⟩
end Own
theorem own_dupX2 {tb : Tables} [Ours tb] {e : Env} {below : List Frame} {T target : State} {m : MethodId} {c : Code} {g : JFrame} (h : At T m c below) (hx : tb.exec = Jvm.exec) (hg : g.method = m) {x y z : Value} {rest : List Value} (hd : decode c.code g.pc = .ok (.dup_x2, 1)) (hs : g.stack = x :: y :: z :: rest) (hc : x.category = 1) (hc' : y.category = 1) (hc2 : z.category = 1)
    (hr : Steps tb e below (T.setTop { g with pc := g.pc + 1, stack := x :: y :: z :: x :: rest }) target) : Steps tb e below (T.setTop g) target := by
  subst hg
  jvm_step h [h.top, hx, hd, hs, hc, hc', hc2]
  exact hr
end Jvm.Pilot.@@N@@
namespace Jvm.Pilot.@@N@@
open Jvm Jvm.ClassFile Sem Op Lib Jvm.Free Jvm.Stand Jvm.LawKit Jvm.RoadKit Bundle Jvm.Pilot.@@N@@.Jvm.D
theorem d2_0 : decode method_3_code 0 = .ok (.iload_n 0, 1) := by decide +kernel
theorem d2_1 : decode method_3_code 1 = .ok (.iload_n 1, 1) := by decide +kernel
theorem d2_2 : decode method_3_code 2 = .ok (.iadd, 1) := by decide +kernel
theorem d2_3 : decode method_3_code 3 = .ok (.iconst 3, 1) := by decide +kernel
theorem d2_4 : decode method_3_code 4 = .ok (.irem, 1) := by decide +kernel
theorem d2_5 : decode method_3_code 5 = .ok (.ireturn, 1) := by decide +kernel
def rmR2 : Room := { frames := 0, cells := 0, slots := 0, locals := 0 }
def f2_0 (x0 : Int32) (x1 : Int32) : Int32 := ((x0 + x1) % (3 : Int32))
set_option maxRecDepth 65536 in
set_option maxHeartbeats 40000000 in
theorem b2_0 {p : Program} {l : Launch} {e : Env} {s : State} {m : MethodId} {args : Array Value} {below : List Frame} {meth : Method} {c : Code} {T : State} {locs : List Loc} {Z : State} {a0 : Array Value} {h0 : Heap} {P : Option Value → Heap → List Loc → Prop} (hw : ∀ d ∈ tables_1, d.before a0 Z = true) (C : own_Ctx p s m meth c Z (⟨"com/example/gridfare/gridfare/engine/ResidualNetworkFlowsPinLaw", "node", "(II)I"⟩ : MethodName) method_3_code 2 (some .int))
    (X : Stand p l e rmR2 s m args below meth c T locs 0 0) (e0 : T.heap = h0) (x0 : Int32) (x1 : Int32) (r : Int32) (hv : f2_0 x0 x1 = r) (hP : P (some (.int r)) h0 locs) :
    own_WP p e below (own_Q s P rmR2.cells rmR2.slots) T (mkF m 0 #[.val (.int x0), .val (.int x1)] []) := by
  obtain ⟨hx, hZ, hby, hml, hown, hnm, hret, hlk⟩ := id C
  unfold f2_0 at hv
  show own_WP p e below _ T (mkF m 0 #[.val (.int x0), .val (.int x1)] [])
  refine own_go (fun _ => XS.iloadN X.here hx rfl (hb hby d2_0) rfl) ?_
  show own_WP p e below _ T (mkF m 1 #[.val (.int x0), .val (.int x1)] [(.int x0)])
  refine own_go (fun _ => XS.iloadN X.here hx rfl (hb hby d2_1) rfl) ?_
  show own_WP p e below _ T (mkF m 2 #[.val (.int x0), .val (.int x1)] [(.int x1), (.int x0)])
  refine own_go (fun _ => XS.iadd X.here hx rfl (hb hby d2_2) rfl) ?_
  show own_WP p e below _ T (mkF m 3 #[.val (.int x0), .val (.int x1)] [(.int (x0 + x1))])
  refine own_go (fun _ => XS.iconst X.here hx rfl (hb hby d2_3)) ?_
  show own_WP p e below _ T (mkF m 4 #[.val (.int x0), .val (.int x1)] [(.int (3 : Int32)), (.int (x0 + x1))])
  refine own_go (fun _ => iremM X hx rfl (hb hby d2_4) rfl (by decide)) ?_
  show own_WP p e below _ T (mkF m 5 #[.val (.int x0), .val (.int x1)] [(.int ((x0 + x1) % (3 : Int32)))])
  subst hv e0; exact own_retI X C (hb hby d2_5) hP (by decide) (by decide)
theorem ef2 (m : MethodId) (x0 : Int32) (x1 : Int32) : entryFrame m #[(.int x0), (.int x1)] 2 = (mkF m 0 #[.val (.int x0), .val (.int x1)] []) := by first | (simp [entryFrame, mkF, argsToLocals, Value.category]; done) | rfl
theorem pd2 : parseMethodDescriptor "(II)I" = some ⟨[.int, .int], some .int⟩ := by decide +kernel
theorem pn2 : plainFor (⟨"com/example/gridfare/gridfare/engine/ResidualNetworkFlowsPinLaw", "node", "(II)I"⟩ : MethodName) = true := plainFor_of_name (by first | (simp [plainName, overriddenIn]; done) | decide +kernel)
theorem rm2 (l : Launch) (Z : State) (a0 : Array Value) (hw : ∀ d ∈ tables_1, d.before a0 Z = true) (x0 : Int32) (x1 : Int32) (h0 : Heap) : own_Met l Z (⟨"com/example/gridfare/gridfare/engine/ResidualNetworkFlowsPinLaw", "node", "(II)I"⟩ : MethodName) method_3_code 2 (some .int) [] rmR2 #[(.int x0), (.int x1)] h0 (fun v h L => v = some (.int (f2_0 x0 x1)) ∧ L = [] ∧ h = h0) := by
  refine own_body pn2 ?_
  intro p e s m below meth c s₁ C X e0
  exact own_cast (ef2 m x0 x1) (b2_0 hw C X e0 x0 x1 _ rfl ⟨rfl, rfl, rfl⟩)
theorem d7_0 : decode jdk_29_method_69_code 0 = .ok (.iload_n 0, 1) := by decide +kernel
theorem d7_1 : decode jdk_29_method_69_code 1 = .ok (.iload_n 1, 1) := by decide +kernel
theorem d7_2 : decode jdk_29_method_69_code 2 = .ok (.if_icmp .gt 7, 3) := by decide +kernel
theorem d7_5 : decode jdk_29_method_69_code 5 = .ok (.iload_n 0, 1) := by decide +kernel
theorem d7_6 : decode jdk_29_method_69_code 6 = .ok (.goto 4, 3) := by decide +kernel
theorem d7_9 : decode jdk_29_method_69_code 9 = .ok (.iload_n 1, 1) := by decide +kernel
theorem d7_10 : decode jdk_29_method_69_code 10 = .ok (.ireturn, 1) := by decide +kernel
def rmR7 : Room := { frames := 0, cells := 0, slots := 0, locals := 0 }
def f7_0 (x0 : Int32) (x1 : Int32) : Int32 := (if x1 < x0 then x1 else x0)
set_option maxRecDepth 65536 in
set_option maxHeartbeats 40000000 in
theorem b7_0 {p : Program} {l : Launch} {e : Env} {s : State} {m : MethodId} {args : Array Value} {below : List Frame} {meth : Method} {c : Code} {T : State} {locs : List Loc} {Z : State} {a0 : Array Value} {h0 : Heap} {P : Option Value → Heap → List Loc → Prop} (hw : ∀ d ∈ tables_1, d.before a0 Z = true) (C : own_Ctx p s m meth c Z (⟨"java/lang/Math", "min", "(II)I"⟩ : MethodName) jdk_29_method_69_code 2 (some .int))
    (X : Stand p l e rmR7 s m args below meth c T locs 0 0) (e0 : T.heap = h0) (x0 : Int32) (x1 : Int32) (r : Int32) (hv : f7_0 x0 x1 = r) (hP : P (some (.int r)) h0 locs) :
    own_WP p e below (own_Q s P rmR7.cells rmR7.slots) T (mkF m 0 #[.val (.int x0), .val (.int x1)] []) := by
  obtain ⟨hx, hZ, hby, hml, hown, hnm, hret, hlk⟩ := id C
  unfold f7_0 at hv
  show own_WP p e below _ T (mkF m 0 #[.val (.int x0), .val (.int x1)] [])
  refine own_go (fun _ => XS.iloadN X.here hx rfl (hb hby d7_0) rfl) ?_
  show own_WP p e below _ T (mkF m 1 #[.val (.int x0), .val (.int x1)] [(.int x0)])
  refine own_go (fun _ => XS.iloadN X.here hx rfl (hb hby d7_1) rfl) ?_
  show own_WP p e below _ T (mkF m 2 #[.val (.int x0), .val (.int x1)] [(.int x1), (.int x0)])
  by_cases h2 : x1 < x0
  · replace hv := (if_pos h2).symm.trans hv
    refine own_go (fun _ => XS.icmpYes X.here hx rfl (pc0 := 2) (pc' := 9) rfl (hb hby d7_2) rfl (XT.ii_gt_t h2) (by decide) (by decide)) ?_
    show own_WP p e below _ T (mkF m 9 #[.val (.int x0), .val (.int x1)] [])
    refine own_go (fun _ => XS.iloadN X.here hx rfl (hb hby d7_9) rfl) ?_
    show own_WP p e below _ T (mkF m 10 #[.val (.int x0), .val (.int x1)] [(.int x1)])
    subst hv e0; exact own_retI X C (hb hby d7_10) hP (by decide) (by decide)
  · replace hv := (if_neg h2).symm.trans hv
    refine own_go (fun _ => XS.icmpNo X.here hx rfl (hb hby d7_2) rfl (XT.ii_gt_f h2)) ?_
    show own_WP p e below _ T (mkF m 5 #[.val (.int x0), .val (.int x1)] [])
    refine own_go (fun _ => XS.iloadN X.here hx rfl (hb hby d7_5) rfl) ?_
    show own_WP p e below _ T (mkF m 6 #[.val (.int x0), .val (.int x1)] [(.int x0)])
    refine own_go (fun _ => XS.goto X.here hx rfl (pc0 := 6) (pc' := 10) rfl (hb hby d7_6) (by decide) (by decide)) ?_
    show own_WP p e below _ T (mkF m 10 #[.val (.int x0), .val (.int x1)] [(.int x0)])
    subst hv e0; exact own_retI X C (hb hby d7_10) hP (by decide) (by decide)
theorem ef7 (m : MethodId) (x0 : Int32) (x1 : Int32) : entryFrame m #[(.int x0), (.int x1)] 2 = (mkF m 0 #[.val (.int x0), .val (.int x1)] []) := by first | (simp [entryFrame, mkF, argsToLocals, Value.category]; done) | rfl
theorem pd7 : parseMethodDescriptor "(II)I" = some ⟨[.int, .int], some .int⟩ := by decide +kernel
theorem pn7 : plainFor (⟨"java/lang/Math", "min", "(II)I"⟩ : MethodName) = true := Jvm.Free.JP.mathPlain rfl (by decide +kernel)
theorem rm7 (l : Launch) (Z : State) (a0 : Array Value) (hw : ∀ d ∈ tables_1, d.before a0 Z = true) (x0 : Int32) (x1 : Int32) (h0 : Heap) : own_Met l Z (⟨"java/lang/Math", "min", "(II)I"⟩ : MethodName) jdk_29_method_69_code 2 (some .int) [] rmR7 #[(.int x0), (.int x1)] h0 (fun v h L => v = some (.int (f7_0 x0 x1)) ∧ L = [] ∧ h = h0) := by
  refine own_body pn7 ?_
  intro p e s m below meth c s₁ C X e0
  exact own_cast (ef7 m x0 x1) (b7_0 hw C X e0 x0 x1 _ rfl ⟨rfl, rfl, rfl⟩)
theorem d16_0 : decode jdk_29_method_70_code 0 = .ok (.lload_n 0, 1) := by decide +kernel
theorem d16_1 : decode jdk_29_method_70_code 1 = .ok (.lload_n 2, 1) := by decide +kernel
theorem d16_2 : decode jdk_29_method_70_code 2 = .ok (.lcmp, 1) := by decide +kernel
theorem d16_3 : decode jdk_29_method_70_code 3 = .ok (.ifCond .gt 7, 3) := by decide +kernel
theorem d16_6 : decode jdk_29_method_70_code 6 = .ok (.lload_n 0, 1) := by decide +kernel
theorem d16_7 : decode jdk_29_method_70_code 7 = .ok (.goto 4, 3) := by decide +kernel
theorem d16_10 : decode jdk_29_method_70_code 10 = .ok (.lload_n 2, 1) := by decide +kernel
theorem d16_11 : decode jdk_29_method_70_code 11 = .ok (.lreturn, 1) := by decide +kernel
def rmR16 : Room := { frames := 0, cells := 0, slots := 0, locals := 0 }
def f16_0 (x0 : Int64) (x2 : Int64) : Int64 := (if x2 < x0 then x2 else x0)
set_option maxRecDepth 65536 in
set_option maxHeartbeats 40000000 in
theorem b16_0 {p : Program} {l : Launch} {e : Env} {s : State} {m : MethodId} {args : Array Value} {below : List Frame} {meth : Method} {c : Code} {T : State} {locs : List Loc} {Z : State} {a0 : Array Value} {h0 : Heap} {P : Option Value → Heap → List Loc → Prop} (hw : ∀ d ∈ tables_1, d.before a0 Z = true) (C : own_Ctx p s m meth c Z (⟨"java/lang/Math", "min", "(JJ)J"⟩ : MethodName) jdk_29_method_70_code 4 (some .long))
    (X : Stand p l e rmR16 s m args below meth c T locs 0 0) (e0 : T.heap = h0) (x0 : Int64) (x2 : Int64) (r : Int64) (hv : f16_0 x0 x2 = r) (hP : P (some (.long r)) h0 locs) :
    own_WP p e below (own_Q s P rmR16.cells rmR16.slots) T (mkF m 0 #[.val (.long x0), .second, .val (.long x2), .second] []) := by
  obtain ⟨hx, hZ, hby, hml, hown, hnm, hret, hlk⟩ := id C
  unfold f16_0 at hv
  show own_WP p e below _ T (mkF m 0 #[.val (.long x0), .second, .val (.long x2), .second] [])
  refine own_go (fun _ => XS.lloadN X.here hx rfl (hb hby d16_0) rfl) ?_
  show own_WP p e below _ T (mkF m 1 #[.val (.long x0), .second, .val (.long x2), .second] [(.long x0)])
  refine own_go (fun _ => XS.lloadN X.here hx rfl (hb hby d16_1) rfl) ?_
  show own_WP p e below _ T (mkF m 2 #[.val (.long x0), .second, .val (.long x2), .second] [(.long x2), (.long x0)])
  refine own_go (fun _ => XT.lcmp X.here hx rfl (hb hby d16_2) rfl) ?_
  show own_WP p e below _ T (mkF m 3 #[.val (.long x0), .second, .val (.long x2), .second] [(.int (XT.cmpL x0 x2))])
  by_cases h3 : x2 < x0
  · replace hv := (if_pos h3).symm.trans hv
    refine own_go (fun _ => XS.ifYes X.here hx rfl (pc0 := 3) (pc' := 10) rfl (hb hby d16_3) rfl (XT.ll_gt_t h3) (by decide) (by decide)) ?_
    show own_WP p e below _ T (mkF m 10 #[.val (.long x0), .second, .val (.long x2), .second] [])
    refine own_go (fun _ => XS.lloadN X.here hx rfl (hb hby d16_10) rfl) ?_
    show own_WP p e below _ T (mkF m 11 #[.val (.long x0), .second, .val (.long x2), .second] [(.long x2)])
    subst hv e0; exact own_retL X C (hb hby d16_11) hP (by decide) (by decide)
  · replace hv := (if_neg h3).symm.trans hv
    refine own_go (fun _ => XS.ifNo X.here hx rfl (hb hby d16_3) rfl (XT.ll_gt_f h3)) ?_
    show own_WP p e below _ T (mkF m 6 #[.val (.long x0), .second, .val (.long x2), .second] [])
    refine own_go (fun _ => XS.lloadN X.here hx rfl (hb hby d16_6) rfl) ?_
    show own_WP p e below _ T (mkF m 7 #[.val (.long x0), .second, .val (.long x2), .second] [(.long x0)])
    refine own_go (fun _ => XS.goto X.here hx rfl (pc0 := 7) (pc' := 11) rfl (hb hby d16_7) (by decide) (by decide)) ?_
    show own_WP p e below _ T (mkF m 11 #[.val (.long x0), .second, .val (.long x2), .second] [(.long x0)])
    subst hv e0; exact own_retL X C (hb hby d16_11) hP (by decide) (by decide)
theorem ef16 (m : MethodId) (x0 : Int64) (x2 : Int64) : entryFrame m #[(.long x0), (.long x2)] 4 = (mkF m 0 #[.val (.long x0), .second, .val (.long x2), .second] []) := by first | (simp [entryFrame, mkF, argsToLocals, Value.category]; done) | rfl
theorem pd16 : parseMethodDescriptor "(JJ)J" = some ⟨[.long, .long], some .long⟩ := by decide +kernel
theorem pn16 : plainFor (⟨"java/lang/Math", "min", "(JJ)J"⟩ : MethodName) = true := Jvm.Free.JP.mathPlain rfl (by decide +kernel)
theorem rm16 (l : Launch) (Z : State) (a0 : Array Value) (hw : ∀ d ∈ tables_1, d.before a0 Z = true) (x0 : Int64) (x2 : Int64) (h0 : Heap) : own_Met l Z (⟨"java/lang/Math", "min", "(JJ)J"⟩ : MethodName) jdk_29_method_70_code 4 (some .long) [] rmR16 #[(.long x0), (.long x2)] h0 (fun v h L => v = some (.long (f16_0 x0 x2)) ∧ L = [] ∧ h = h0) := by
  refine own_body pn16 ?_
  intro p e s m below meth c s₁ C X e0
  exact own_cast (ef16 m x0 x2) (b16_0 hw C X e0 x0 x2 _ rfl ⟨rfl, rfl, rfl⟩)
theorem d1_0 : decode method_4_code 0 = .ok (.iload 4, 2) := by decide +kernel
theorem d1_2 : decode method_4_code 2 = .ok (.ifCond .ne 29, 3) := by decide +kernel
theorem d1_5 : decode method_4_code 5 = .ok (.aload_n 0, 1) := by decide +kernel
theorem d1_6 : decode method_4_code 6 = .ok (.iload_n 3, 1) := by decide +kernel
theorem d1_7 : decode method_4_code 7 = .ok (.iconst 0, 1) := by decide +kernel
theorem d1_8 : decode method_4_code 8 = .ok (.iload 5, 2) := by decide +kernel
theorem d1_10 : decode method_4_code 10 = .ok (.invokestatic 23, 3) := by decide +kernel
theorem d1_13 : decode method_4_code 13 = .ok (.iastore, 1) := by decide +kernel
theorem d1_14 : decode method_4_code 14 = .ok (.aload_n 1, 1) := by decide +kernel
theorem d1_15 : decode method_4_code 15 = .ok (.iload_n 3, 1) := by decide +kernel
theorem d1_16 : decode method_4_code 16 = .ok (.iconst 1, 1) := by decide +kernel
theorem d1_17 : decode method_4_code 17 = .ok (.iload 5, 2) := by decide +kernel
theorem d1_19 : decode method_4_code 19 = .ok (.invokestatic 23, 3) := by decide +kernel
theorem d1_22 : decode method_4_code 22 = .ok (.iastore, 1) := by decide +kernel
theorem d1_23 : decode method_4_code 23 = .ok (.aload_n 2, 1) := by decide +kernel
theorem d1_24 : decode method_4_code 24 = .ok (.iload_n 3, 1) := by decide +kernel
theorem d1_25 : decode method_4_code 25 = .ok (.iload 6, 2) := by decide +kernel
theorem d1_27 : decode method_4_code 27 = .ok (.iastore, 1) := by decide +kernel
theorem d1_28 : decode method_4_code 28 = .ok (.goto 90, 3) := by decide +kernel
theorem d1_31 : decode method_4_code 31 = .ok (.iload 4, 2) := by decide +kernel
theorem d1_33 : decode method_4_code 33 = .ok (.iconst 1, 1) := by decide +kernel
theorem d1_34 : decode method_4_code 34 = .ok (.if_icmp .ne 29, 3) := by decide +kernel
theorem d1_37 : decode method_4_code 37 = .ok (.aload_n 0, 1) := by decide +kernel
theorem d1_38 : decode method_4_code 38 = .ok (.iload_n 3, 1) := by decide +kernel
theorem d1_39 : decode method_4_code 39 = .ok (.iconst 1, 1) := by decide +kernel
theorem d1_40 : decode method_4_code 40 = .ok (.iload 5, 2) := by decide +kernel
theorem d1_42 : decode method_4_code 42 = .ok (.invokestatic 23, 3) := by decide +kernel
theorem d1_45 : decode method_4_code 45 = .ok (.iastore, 1) := by decide +kernel
theorem d1_46 : decode method_4_code 46 = .ok (.aload_n 1, 1) := by decide +kernel
theorem d1_47 : decode method_4_code 47 = .ok (.iload_n 3, 1) := by decide +kernel
theorem d1_48 : decode method_4_code 48 = .ok (.iconst 2, 1) := by decide +kernel
theorem d1_49 : decode method_4_code 49 = .ok (.iload 5, 2) := by decide +kernel
theorem d1_51 : decode method_4_code 51 = .ok (.invokestatic 23, 3) := by decide +kernel
theorem d1_54 : decode method_4_code 54 = .ok (.iastore, 1) := by decide +kernel
theorem d1_55 : decode method_4_code 55 = .ok (.aload_n 2, 1) := by decide +kernel
theorem d1_56 : decode method_4_code 56 = .ok (.iload_n 3, 1) := by decide +kernel
theorem d1_57 : decode method_4_code 57 = .ok (.iload 7, 2) := by decide +kernel
theorem d1_59 : decode method_4_code 59 = .ok (.iastore, 1) := by decide +kernel
theorem d1_60 : decode method_4_code 60 = .ok (.goto 58, 3) := by decide +kernel
theorem d1_63 : decode method_4_code 63 = .ok (.iload 4, 2) := by decide +kernel
theorem d1_65 : decode method_4_code 65 = .ok (.iconst 2, 1) := by decide +kernel
theorem d1_66 : decode method_4_code 66 = .ok (.if_icmp .ne 29, 3) := by decide +kernel
theorem d1_69 : decode method_4_code 69 = .ok (.aload_n 0, 1) := by decide +kernel
theorem d1_70 : decode method_4_code 70 = .ok (.iload_n 3, 1) := by decide +kernel
theorem d1_71 : decode method_4_code 71 = .ok (.iconst 0, 1) := by decide +kernel
theorem d1_72 : decode method_4_code 72 = .ok (.iload 5, 2) := by decide +kernel
theorem d1_74 : decode method_4_code 74 = .ok (.invokestatic 23, 3) := by decide +kernel
theorem d1_77 : decode method_4_code 77 = .ok (.iastore, 1) := by decide +kernel
theorem d1_78 : decode method_4_code 78 = .ok (.aload_n 1, 1) := by decide +kernel
theorem d1_79 : decode method_4_code 79 = .ok (.iload_n 3, 1) := by decide +kernel
theorem d1_80 : decode method_4_code 80 = .ok (.iconst 2, 1) := by decide +kernel
theorem d1_81 : decode method_4_code 81 = .ok (.iload 5, 2) := by decide +kernel
theorem d1_83 : decode method_4_code 83 = .ok (.invokestatic 23, 3) := by decide +kernel
theorem d1_86 : decode method_4_code 86 = .ok (.iastore, 1) := by decide +kernel
theorem d1_87 : decode method_4_code 87 = .ok (.aload_n 2, 1) := by decide +kernel
theorem d1_88 : decode method_4_code 88 = .ok (.iload_n 3, 1) := by decide +kernel
theorem d1_89 : decode method_4_code 89 = .ok (.iload 8, 2) := by decide +kernel
theorem d1_91 : decode method_4_code 91 = .ok (.iastore, 1) := by decide +kernel
theorem d1_92 : decode method_4_code 92 = .ok (.goto 26, 3) := by decide +kernel
theorem d1_95 : decode method_4_code 95 = .ok (.aload_n 0, 1) := by decide +kernel
theorem d1_96 : decode method_4_code 96 = .ok (.iload_n 3, 1) := by decide +kernel
theorem d1_97 : decode method_4_code 97 = .ok (.iconst 2, 1) := by decide +kernel
theorem d1_98 : decode method_4_code 98 = .ok (.iload 5, 2) := by decide +kernel
theorem d1_100 : decode method_4_code 100 = .ok (.invokestatic 23, 3) := by decide +kernel
theorem d1_103 : decode method_4_code 103 = .ok (.iastore, 1) := by decide +kernel
theorem d1_104 : decode method_4_code 104 = .ok (.aload_n 1, 1) := by decide +kernel
theorem d1_105 : decode method_4_code 105 = .ok (.iload_n 3, 1) := by decide +kernel
theorem d1_106 : decode method_4_code 106 = .ok (.iconst 1, 1) := by decide +kernel
theorem d1_107 : decode method_4_code 107 = .ok (.iload 5, 2) := by decide +kernel
theorem d1_109 : decode method_4_code 109 = .ok (.invokestatic 23, 3) := by decide +kernel
theorem d1_112 : decode method_4_code 112 = .ok (.iastore, 1) := by decide +kernel
theorem d1_113 : decode method_4_code 113 = .ok (.aload_n 2, 1) := by decide +kernel
theorem d1_114 : decode method_4_code 114 = .ok (.iload_n 3, 1) := by decide +kernel
theorem d1_115 : decode method_4_code 115 = .ok (.iload 9, 2) := by decide +kernel
theorem d1_117 : decode method_4_code 117 = .ok (.iastore, 1) := by decide +kernel
theorem d1_118 : decode method_4_code 118 = .ok (.return_, 1) := by decide +kernel
def rmR1 : Room := { frames := 1, cells := 0, slots := 0, locals := 15 }
def E1 (Z : State) (h0 : Heap) (o0 : Nat) (o1 : Nat) (o2 : Nat)  (rr : (List Int32) × (List Int32) × (List Int32)) (v : Option Value) (h : Heap) : Prop := v = none ∧ own_AI Z h o0 .int (rr.1) ∧ own_AI Z h o1 .int (rr.2.1) ∧ own_AI Z h o2 .int (rr.2.2)
def f1_0 (v_o0 : List Int32) (v_o1 : List Int32) (v_o2 : List Int32) (x3 : Int32) (x4 : Int32) (x5 : Int32) (x6 : Int32) (x7 : Int32) (x8 : Int32) (x9 : Int32) : Option ((List Int32) × (List Int32) × (List Int32)) := (if x4 = (0 : Int32) then ((own_set v_o0 x3 (f2_0 (0 : Int32) x5)).bind fun u2 => ((own_set v_o1 x3 (f2_0 (1 : Int32) x5)).bind fun u4 => ((own_set v_o2 x3 x6).bind fun u5 => (some (u2, u4, u5))))) else (if x4 = (1 : Int32) then ((own_set v_o0 x3 (f2_0 (1 : Int32) x5)).bind fun u7 => ((own_set v_o1 x3 (f2_0 (2 : Int32) x5)).bind fun u9 => ((own_set v_o2 x3 x7).bind fun u10 => (some (u7, u9, u10))))) else (if x4 = (2 : Int32) then ((own_set v_o0 x3 (f2_0 (0 : Int32) x5)).bind fun u12 => ((own_set v_o1 x3 (f2_0 (2 : Int32) x5)).bind fun u14 => ((own_set v_o2 x3 x8).bind fun u15 => (some (u12, u14, u15))))) else ((own_set v_o0 x3 (f2_0 (2 : Int32) x5)).bind fun u17 => ((own_set v_o1 x3 (f2_0 (1 : Int32) x5)).bind fun u19 => ((own_set v_o2 x3 x9).bind fun u20 => (some (u17, u19, u20))))))))
set_option maxRecDepth 65536 in
set_option maxHeartbeats 40000000 in
theorem b1_0 {p : Program} {l : Launch} {e : Env} {s : State} {m : MethodId} {args : Array Value} {below : List Frame} {meth : Method} {c : Code} {Z : State} {a0 : Array Value} {h0 : Heap} {n0 : Nat} {P : Option Value → Heap → List Loc → Prop} (hw : ∀ d ∈ tables_1, d.before a0 Z = true) (C : own_Ctx p s m meth c Z (⟨"com/example/gridfare/gridfare/engine/ResidualNetworkFlowsPinLaw", "put", "([I[I[IIIIIIII)V"⟩ : MethodName) method_4_code 10 none) (Z0 : n0 ≤ h0.size) {o0 : Nat} {o1 : Nat} {o2 : Nat}  (rr : (List Int32) × (List Int32) × (List Int32)) (hP : ∀ v h L, Fr n0 L → Keep h0 h [o0, o1, o2] → E1 Z h0 o0 o1 o2 rr v h → P v h L)
    {T : State} {locs : List Loc} {h : Heap} {v_o0 : List Int32} {v_o1 : List Int32} {v_o2 : List Int32} (X : Stand p l e rmR1 s m args below meth c T locs 0 0) (e0 : T.heap = h) (N : Fr n0 locs) (K : Keep h0 h [o0, o1, o2]) (o_o0_o1 : o0 < o1) (o_o1_o2 : o1 < o2) (g_o0 : n0 ≤ o0) (V_o0 : own_AI Z h o0 .int v_o0) (V_o1 : own_AI Z h o1 .int v_o1) (V_o2 : own_AI Z h o2 .int v_o2) (x3 : Int32) (x4 : Int32) (x5 : Int32) (x6 : Int32) (x7 : Int32) (x8 : Int32) (x9 : Int32) (hv : f1_0 v_o0 v_o1 v_o2 x3 x4 x5 x6 x7 x8 x9 = some rr) :
    own_WP p e below (own_Q s P rmR1.cells rmR1.slots) T (mkF m 0 #[.val (.ref o0), .val (.ref o1), .val (.ref o2), .val (.int x3), .val (.int x4), .val (.int x5), .val (.int x6), .val (.int x7), .val (.int x8), .val (.int x9)] []) := by
  obtain ⟨hx, hZ, hby, hml, hown, hnm, hret, hlk⟩ := id C
  replace hown : s.vm.findClass "com/example/gridfare/gridfare/engine/ResidualNetworkFlowsPinLaw" = some m.cls := hown
  unfold f1_0 at hv
  show own_WP p e below _ T (mkF m 0 #[.val (.ref o0), .val (.ref o1), .val (.ref o2), .val (.int x3), .val (.int x4), .val (.int x5), .val (.int x6), .val (.int x7), .val (.int x8), .val (.int x9)] [])
  refine own_go (fun _ => XS.iload X.here hx rfl (hb hby d1_0) rfl) ?_
  show own_WP p e below _ T (mkF m 2 _ [(.int x4)])
  by_cases h2 : x4 = (0 : Int32)
  · replace hv := (if_pos h2).symm.trans hv
    refine own_go (fun _ => XS.ifNo X.here hx rfl (hb hby d1_2) rfl (XT.i0_ne_f h2)) ?_
    show own_WP p e below _ T (mkF m 5 #[.val (.ref o0), .val (.ref o1), .val (.ref o2), .val (.int x3), .val (.int x4), .val (.int x5), .val (.int x6), .val (.int x7), .val (.int x8), .val (.int x9)] [])
    refine own_go (fun _ => XS.aloadN X.here hx rfl (hb hby d1_5) rfl rfl) ?_
    show own_WP p e below _ T (mkF m 6 _ [(.ref o0)])
    refine own_go (fun _ => XS.iloadN X.here hx rfl (hb hby d1_6) rfl) ?_
    show own_WP p e below _ T (mkF m 7 _ [(.int x3), (.ref o0)])
    refine own_go (fun _ => XS.iconst X.here hx rfl (hb hby d1_7)) ?_
    show own_WP p e below _ T (mkF m 8 _ [(.int (0 : Int32)), (.int x3), (.ref o0)])
    refine own_go (fun _ => XS.iload X.here hx rfl (hb hby d1_8) rfl) ?_
    show own_WP p e below _ T (mkF m 10 #[.val (.ref o0), .val (.ref o1), .val (.ref o2), .val (.int x3), .val (.int x4), .val (.int x5), .val (.int x6), .val (.int x7), .val (.int x8), .val (.int x9)] [(.int x5), (.int (0 : Int32)), (.int x3), (.ref o0)])
    obtain ⟨T1, v1, L1, X1, ⟨rfl, rfl, e1⟩, st1⟩ := own_callS X C (rm2 l Z a0 hw (0 : Int32) x5 h) (hw _ (List.mem_of_getElem? (i := 7) rfl)) (hw _ (List.mem_of_getElem? (i := 8) rfl)) (hw _ (List.mem_of_getElem? (i := 5) rfl)) (hw _ (List.mem_of_getElem? (i := 9) rfl)) (by decide) e0 (W := 2) (pc := 10) (Ls := #[.val (.ref o0), .val (.ref o1), .val (.ref o2), .val (.int x3), .val (.int x4), .val (.int x5), .val (.int x6), .val (.int x7), .val (.int x8), .val (.int x9)]) rfl (lenOf pd2 rfl) (rest := [(.int x3), (.ref o0)]) (stk := [(.int x5), (.int (0 : Int32)), (.int x3), (.ref o0)]) rfl (Nat.le_of_ble_eq_true rfl) (hb hby d1_10) (by decide) (by decide) (by decide) (by decide)
    rw [List.append_nil] at X1
    refine own_go st1 ?_
    clear st1 X e0
    show own_WP p e below _ T1 (mkF m 13 _ [(.int (f2_0 (0 : Int32) x5)), (.int x3), (.ref o0)])
    obtain ⟨u2, hg2, hv⟩ := own_bind hv
    obtain ⟨T2, h2, X2, e2, W2, V'2, st2⟩ := own_iastore X1 C e1 V_o0 (j := x3) (x := (f2_0 (0 : Int32) x5)) hg2 (hb hby d1_13)
    refine own_go st2 ?_
    replace V_o1 := V_o1.other W2 (own_ne (by omega))
    replace V_o2 := V_o2.other W2 (own_ne (by omega))
    replace V_o0 := V'2
    clear V'2
    replace K := K.wr W2 (Or.inl (List.mem_of_getElem? (i := 0) rfl))
    replace N := Fr.snoc X2 N (by omega)
    clear st2 W2 hg2 X1 e1
    show own_WP p e below _ T2 (mkF m 14 _ [])
    refine own_go (fun _ => XS.aloadN X2.here hx rfl (hb hby d1_14) rfl rfl) ?_
    show own_WP p e below _ T2 (mkF m 15 _ [(.ref o1)])
    refine own_go (fun _ => XS.iloadN X2.here hx rfl (hb hby d1_15) rfl) ?_
    show own_WP p e below _ T2 (mkF m 16 _ [(.int x3), (.ref o1)])
    refine own_go (fun _ => XS.iconst X2.here hx rfl (hb hby d1_16)) ?_
    show own_WP p e below _ T2 (mkF m 17 _ [(.int (1 : Int32)), (.int x3), (.ref o1)])
    refine own_go (fun _ => XS.iload X2.here hx rfl (hb hby d1_17) rfl) ?_
    show own_WP p e below _ T2 (mkF m 19 #[.val (.ref o0), .val (.ref o1), .val (.ref o2), .val (.int x3), .val (.int x4), .val (.int x5), .val (.int x6), .val (.int x7), .val (.int x8), .val (.int x9)] [(.int x5), (.int (1 : Int32)), (.int x3), (.ref o1)])
    obtain ⟨T3, v3, L3, X3, ⟨rfl, rfl, e3⟩, st3⟩ := own_callS X2 C (rm2 l Z a0 hw (1 : Int32) x5 h2) (hw _ (List.mem_of_getElem? (i := 7) rfl)) (hw _ (List.mem_of_getElem? (i := 8) rfl)) (hw _ (List.mem_of_getElem? (i := 5) rfl)) (hw _ (List.mem_of_getElem? (i := 9) rfl)) (by decide) e2 (W := 2) (pc := 19) (Ls := #[.val (.ref o0), .val (.ref o1), .val (.ref o2), .val (.int x3), .val (.int x4), .val (.int x5), .val (.int x6), .val (.int x7), .val (.int x8), .val (.int x9)]) rfl (lenOf pd2 rfl) (rest := [(.int x3), (.ref o1)]) (stk := [(.int x5), (.int (1 : Int32)), (.int x3), (.ref o1)]) rfl (Nat.le_of_ble_eq_true rfl) (hb hby d1_19) (by decide) (by decide) (by decide) (by decide)
    rw [List.append_nil] at X3
    refine own_go st3 ?_
    clear st3 X2 e2
    show own_WP p e below _ T3 (mkF m 22 _ [(.int (f2_0 (1 : Int32) x5)), (.int x3), (.ref o1)])
    obtain ⟨u4, hg4, hv⟩ := own_bind hv
    obtain ⟨T4, h4, X4, e4, W4, V'4, st4⟩ := own_iastore X3 C e3 V_o1 (j := x3) (x := (f2_0 (1 : Int32) x5)) hg4 (hb hby d1_22)
    refine own_go st4 ?_
    replace V_o0 := V_o0.other W4 (own_ne (by omega))
    replace V_o2 := V_o2.other W4 (own_ne (by omega))
    replace V_o1 := V'4
    clear V'4
    replace K := K.wr W4 (Or.inl (List.mem_of_getElem? (i := 1) rfl))
    replace N := Fr.snoc X4 N (by omega)
    clear st4 W4 hg4 X3 e3
    show own_WP p e below _ T4 (mkF m 23 _ [])
    refine own_go (fun _ => XS.aloadN X4.here hx rfl (hb hby d1_23) rfl rfl) ?_
    show own_WP p e below _ T4 (mkF m 24 _ [(.ref o2)])
    refine own_go (fun _ => XS.iloadN X4.here hx rfl (hb hby d1_24) rfl) ?_
    show own_WP p e below _ T4 (mkF m 25 _ [(.int x3), (.ref o2)])
    refine own_go (fun _ => XS.iload X4.here hx rfl (hb hby d1_25) rfl) ?_
    show own_WP p e below _ T4 (mkF m 27 _ [(.int x6), (.int x3), (.ref o2)])
    obtain ⟨u5, hg5, hv⟩ := own_bind hv
    obtain ⟨T5, h5, X5, e5, W5, V'5, st5⟩ := own_iastore X4 C e4 V_o2 (j := x3) (x := x6) hg5 (hb hby d1_27)
    refine own_go st5 ?_
    replace V_o0 := V_o0.other W5 (own_ne (by omega))
    replace V_o1 := V_o1.other W5 (own_ne (by omega))
    replace V_o2 := V'5
    clear V'5
    replace K := K.wr W5 (Or.inl (List.mem_of_getElem? (i := 2) rfl))
    replace N := Fr.snoc X5 N (by omega)
    clear st5 W5 hg5 X4 e4
    show own_WP p e below _ T5 (mkF m 28 _ [])
    refine own_go (fun _ => XS.goto X5.here hx rfl (pc0 := 28) (pc' := 118) rfl (hb hby d1_28) (by decide) (by decide)) ?_
    show own_WP p e below _ T5 (mkF m 118 #[.val (.ref o0), .val (.ref o1), .val (.ref o2), .val (.int x3), .val (.int x4), .val (.int x5), .val (.int x6), .val (.int x7), .val (.int x8), .val (.int x9)] [])
    obtain rfl := Option.some.inj hv
    exact own_retV X5 C (hb hby d1_118) (by rw [e5]; exact hP _ _ _ N K ⟨rfl, V_o0, V_o1, V_o2⟩) (by decide) (by decide)
  · replace hv := (if_neg h2).symm.trans hv
    refine own_go (fun _ => XS.ifYes X.here hx rfl (pc0 := 2) (pc' := 31) rfl (hb hby d1_2) rfl (XT.i0_ne_t h2) (by decide) (by decide)) ?_
    show own_WP p e below _ T (mkF m 31 #[.val (.ref o0), .val (.ref o1), .val (.ref o2), .val (.int x3), .val (.int x4), .val (.int x5), .val (.int x6), .val (.int x7), .val (.int x8), .val (.int x9)] [])
    refine own_go (fun _ => XS.iload X.here hx rfl (hb hby d1_31) rfl) ?_
    show own_WP p e below _ T (mkF m 33 _ [(.int x4)])
    refine own_go (fun _ => XS.iconst X.here hx rfl (hb hby d1_33)) ?_
    show own_WP p e below _ T (mkF m 34 _ [(.int (1 : Int32)), (.int x4)])
    by_cases h34 : x4 = (1 : Int32)
    · replace hv := (if_pos h34).symm.trans hv
      refine own_go (fun _ => XS.icmpNo X.here hx rfl (hb hby d1_34) rfl (XT.ii_ne_f h34)) ?_
      show own_WP p e below _ T (mkF m 37 #[.val (.ref o0), .val (.ref o1), .val (.ref o2), .val (.int x3), .val (.int x4), .val (.int x5), .val (.int x6), .val (.int x7), .val (.int x8), .val (.int x9)] [])
      refine own_go (fun _ => XS.aloadN X.here hx rfl (hb hby d1_37) rfl rfl) ?_
      show own_WP p e below _ T (mkF m 38 _ [(.ref o0)])
      refine own_go (fun _ => XS.iloadN X.here hx rfl (hb hby d1_38) rfl) ?_
      show own_WP p e below _ T (mkF m 39 _ [(.int x3), (.ref o0)])
      refine own_go (fun _ => XS.iconst X.here hx rfl (hb hby d1_39)) ?_
      show own_WP p e below _ T (mkF m 40 _ [(.int (1 : Int32)), (.int x3), (.ref o0)])
      refine own_go (fun _ => XS.iload X.here hx rfl (hb hby d1_40) rfl) ?_
      show own_WP p e below _ T (mkF m 42 #[.val (.ref o0), .val (.ref o1), .val (.ref o2), .val (.int x3), .val (.int x4), .val (.int x5), .val (.int x6), .val (.int x7), .val (.int x8), .val (.int x9)] [(.int x5), (.int (1 : Int32)), (.int x3), (.ref o0)])
      obtain ⟨T6, v6, L6, X6, ⟨rfl, rfl, e6⟩, st6⟩ := own_callS X C (rm2 l Z a0 hw (1 : Int32) x5 h) (hw _ (List.mem_of_getElem? (i := 7) rfl)) (hw _ (List.mem_of_getElem? (i := 8) rfl)) (hw _ (List.mem_of_getElem? (i := 5) rfl)) (hw _ (List.mem_of_getElem? (i := 9) rfl)) (by decide) e0 (W := 2) (pc := 42) (Ls := #[.val (.ref o0), .val (.ref o1), .val (.ref o2), .val (.int x3), .val (.int x4), .val (.int x5), .val (.int x6), .val (.int x7), .val (.int x8), .val (.int x9)]) rfl (lenOf pd2 rfl) (rest := [(.int x3), (.ref o0)]) (stk := [(.int x5), (.int (1 : Int32)), (.int x3), (.ref o0)]) rfl (Nat.le_of_ble_eq_true rfl) (hb hby d1_42) (by decide) (by decide) (by decide) (by decide)
      rw [List.append_nil] at X6
      refine own_go st6 ?_
      clear st6 X e0
      show own_WP p e below _ T6 (mkF m 45 _ [(.int (f2_0 (1 : Int32) x5)), (.int x3), (.ref o0)])
      obtain ⟨u7, hg7, hv⟩ := own_bind hv
      obtain ⟨T7, h7, X7, e7, W7, V'7, st7⟩ := own_iastore X6 C e6 V_o0 (j := x3) (x := (f2_0 (1 : Int32) x5)) hg7 (hb hby d1_45)
      refine own_go st7 ?_
      replace V_o1 := V_o1.other W7 (own_ne (by omega))
      replace V_o2 := V_o2.other W7 (own_ne (by omega))
      replace V_o0 := V'7
      clear V'7
      replace K := K.wr W7 (Or.inl (List.mem_of_getElem? (i := 0) rfl))
      replace N := Fr.snoc X7 N (by omega)
      clear st7 W7 hg7 X6 e6
      show own_WP p e below _ T7 (mkF m 46 _ [])
      refine own_go (fun _ => XS.aloadN X7.here hx rfl (hb hby d1_46) rfl rfl) ?_
      show own_WP p e below _ T7 (mkF m 47 _ [(.ref o1)])
      refine own_go (fun _ => XS.iloadN X7.here hx rfl (hb hby d1_47) rfl) ?_
      show own_WP p e below _ T7 (mkF m 48 _ [(.int x3), (.ref o1)])
      refine own_go (fun _ => XS.iconst X7.here hx rfl (hb hby d1_48)) ?_
      show own_WP p e below _ T7 (mkF m 49 _ [(.int (2 : Int32)), (.int x3), (.ref o1)])
      refine own_go (fun _ => XS.iload X7.here hx rfl (hb hby d1_49) rfl) ?_
      show own_WP p e below _ T7 (mkF m 51 #[.val (.ref o0), .val (.ref o1), .val (.ref o2), .val (.int x3), .val (.int x4), .val (.int x5), .val (.int x6), .val (.int x7), .val (.int x8), .val (.int x9)] [(.int x5), (.int (2 : Int32)), (.int x3), (.ref o1)])
      obtain ⟨T8, v8, L8, X8, ⟨rfl, rfl, e8⟩, st8⟩ := own_callS X7 C (rm2 l Z a0 hw (2 : Int32) x5 h7) (hw _ (List.mem_of_getElem? (i := 7) rfl)) (hw _ (List.mem_of_getElem? (i := 8) rfl)) (hw _ (List.mem_of_getElem? (i := 5) rfl)) (hw _ (List.mem_of_getElem? (i := 9) rfl)) (by decide) e7 (W := 2) (pc := 51) (Ls := #[.val (.ref o0), .val (.ref o1), .val (.ref o2), .val (.int x3), .val (.int x4), .val (.int x5), .val (.int x6), .val (.int x7), .val (.int x8), .val (.int x9)]) rfl (lenOf pd2 rfl) (rest := [(.int x3), (.ref o1)]) (stk := [(.int x5), (.int (2 : Int32)), (.int x3), (.ref o1)]) rfl (Nat.le_of_ble_eq_true rfl) (hb hby d1_51) (by decide) (by decide) (by decide) (by decide)
      rw [List.append_nil] at X8
      refine own_go st8 ?_
      clear st8 X7 e7
      show own_WP p e below _ T8 (mkF m 54 _ [(.int (f2_0 (2 : Int32) x5)), (.int x3), (.ref o1)])
      obtain ⟨u9, hg9, hv⟩ := own_bind hv
      obtain ⟨T9, h9, X9, e9, W9, V'9, st9⟩ := own_iastore X8 C e8 V_o1 (j := x3) (x := (f2_0 (2 : Int32) x5)) hg9 (hb hby d1_54)
      refine own_go st9 ?_
      replace V_o0 := V_o0.other W9 (own_ne (by omega))
      replace V_o2 := V_o2.other W9 (own_ne (by omega))
      replace V_o1 := V'9
      clear V'9
      replace K := K.wr W9 (Or.inl (List.mem_of_getElem? (i := 1) rfl))
      replace N := Fr.snoc X9 N (by omega)
      clear st9 W9 hg9 X8 e8
      show own_WP p e below _ T9 (mkF m 55 _ [])
      refine own_go (fun _ => XS.aloadN X9.here hx rfl (hb hby d1_55) rfl rfl) ?_
      show own_WP p e below _ T9 (mkF m 56 _ [(.ref o2)])
      refine own_go (fun _ => XS.iloadN X9.here hx rfl (hb hby d1_56) rfl) ?_
      show own_WP p e below _ T9 (mkF m 57 _ [(.int x3), (.ref o2)])
      refine own_go (fun _ => XS.iload X9.here hx rfl (hb hby d1_57) rfl) ?_
      show own_WP p e below _ T9 (mkF m 59 _ [(.int x7), (.int x3), (.ref o2)])
      obtain ⟨u10, hg10, hv⟩ := own_bind hv
      obtain ⟨T10, h10, X10, e10, W10, V'10, st10⟩ := own_iastore X9 C e9 V_o2 (j := x3) (x := x7) hg10 (hb hby d1_59)
      refine own_go st10 ?_
      replace V_o0 := V_o0.other W10 (own_ne (by omega))
      replace V_o1 := V_o1.other W10 (own_ne (by omega))
      replace V_o2 := V'10
      clear V'10
      replace K := K.wr W10 (Or.inl (List.mem_of_getElem? (i := 2) rfl))
      replace N := Fr.snoc X10 N (by omega)
      clear st10 W10 hg10 X9 e9
      show own_WP p e below _ T10 (mkF m 60 _ [])
      refine own_go (fun _ => XS.goto X10.here hx rfl (pc0 := 60) (pc' := 118) rfl (hb hby d1_60) (by decide) (by decide)) ?_
      show own_WP p e below _ T10 (mkF m 118 #[.val (.ref o0), .val (.ref o1), .val (.ref o2), .val (.int x3), .val (.int x4), .val (.int x5), .val (.int x6), .val (.int x7), .val (.int x8), .val (.int x9)] [])
      obtain rfl := Option.some.inj hv
      exact own_retV X10 C (hb hby d1_118) (by rw [e10]; exact hP _ _ _ N K ⟨rfl, V_o0, V_o1, V_o2⟩) (by decide) (by decide)
    · replace hv := (if_neg h34).symm.trans hv
      refine own_go (fun _ => XS.icmpYes X.here hx rfl (pc0 := 34) (pc' := 63) rfl (hb hby d1_34) rfl (XT.ii_ne_t h34) (by decide) (by decide)) ?_
      show own_WP p e below _ T (mkF m 63 #[.val (.ref o0), .val (.ref o1), .val (.ref o2), .val (.int x3), .val (.int x4), .val (.int x5), .val (.int x6), .val (.int x7), .val (.int x8), .val (.int x9)] [])
      refine own_go (fun _ => XS.iload X.here hx rfl (hb hby d1_63) rfl) ?_
      show own_WP p e below _ T (mkF m 65 _ [(.int x4)])
      refine own_go (fun _ => XS.iconst X.here hx rfl (hb hby d1_65)) ?_
      show own_WP p e below _ T (mkF m 66 _ [(.int (2 : Int32)), (.int x4)])
      by_cases h66 : x4 = (2 : Int32)
      · replace hv := (if_pos h66).symm.trans hv
        refine own_go (fun _ => XS.icmpNo X.here hx rfl (hb hby d1_66) rfl (XT.ii_ne_f h66)) ?_
        show own_WP p e below _ T (mkF m 69 #[.val (.ref o0), .val (.ref o1), .val (.ref o2), .val (.int x3), .val (.int x4), .val (.int x5), .val (.int x6), .val (.int x7), .val (.int x8), .val (.int x9)] [])
        refine own_go (fun _ => XS.aloadN X.here hx rfl (hb hby d1_69) rfl rfl) ?_
        show own_WP p e below _ T (mkF m 70 _ [(.ref o0)])
        refine own_go (fun _ => XS.iloadN X.here hx rfl (hb hby d1_70) rfl) ?_
        show own_WP p e below _ T (mkF m 71 _ [(.int x3), (.ref o0)])
        refine own_go (fun _ => XS.iconst X.here hx rfl (hb hby d1_71)) ?_
        show own_WP p e below _ T (mkF m 72 _ [(.int (0 : Int32)), (.int x3), (.ref o0)])
        refine own_go (fun _ => XS.iload X.here hx rfl (hb hby d1_72) rfl) ?_
        show own_WP p e below _ T (mkF m 74 #[.val (.ref o0), .val (.ref o1), .val (.ref o2), .val (.int x3), .val (.int x4), .val (.int x5), .val (.int x6), .val (.int x7), .val (.int x8), .val (.int x9)] [(.int x5), (.int (0 : Int32)), (.int x3), (.ref o0)])
        obtain ⟨T11, v11, L11, X11, ⟨rfl, rfl, e11⟩, st11⟩ := own_callS X C (rm2 l Z a0 hw (0 : Int32) x5 h) (hw _ (List.mem_of_getElem? (i := 7) rfl)) (hw _ (List.mem_of_getElem? (i := 8) rfl)) (hw _ (List.mem_of_getElem? (i := 5) rfl)) (hw _ (List.mem_of_getElem? (i := 9) rfl)) (by decide) e0 (W := 2) (pc := 74) (Ls := #[.val (.ref o0), .val (.ref o1), .val (.ref o2), .val (.int x3), .val (.int x4), .val (.int x5), .val (.int x6), .val (.int x7), .val (.int x8), .val (.int x9)]) rfl (lenOf pd2 rfl) (rest := [(.int x3), (.ref o0)]) (stk := [(.int x5), (.int (0 : Int32)), (.int x3), (.ref o0)]) rfl (Nat.le_of_ble_eq_true rfl) (hb hby d1_74) (by decide) (by decide) (by decide) (by decide)
        rw [List.append_nil] at X11
        refine own_go st11 ?_
        clear st11 X e0
        show own_WP p e below _ T11 (mkF m 77 _ [(.int (f2_0 (0 : Int32) x5)), (.int x3), (.ref o0)])
        obtain ⟨u12, hg12, hv⟩ := own_bind hv
        obtain ⟨T12, h12, X12, e12, W12, V'12, st12⟩ := own_iastore X11 C e11 V_o0 (j := x3) (x := (f2_0 (0 : Int32) x5)) hg12 (hb hby d1_77)
        refine own_go st12 ?_
        replace V_o1 := V_o1.other W12 (own_ne (by omega))
        replace V_o2 := V_o2.other W12 (own_ne (by omega))
        replace V_o0 := V'12
        clear V'12
        replace K := K.wr W12 (Or.inl (List.mem_of_getElem? (i := 0) rfl))
        replace N := Fr.snoc X12 N (by omega)
        clear st12 W12 hg12 X11 e11
        show own_WP p e below _ T12 (mkF m 78 _ [])
        refine own_go (fun _ => XS.aloadN X12.here hx rfl (hb hby d1_78) rfl rfl) ?_
        show own_WP p e below _ T12 (mkF m 79 _ [(.ref o1)])
        refine own_go (fun _ => XS.iloadN X12.here hx rfl (hb hby d1_79) rfl) ?_
        show own_WP p e below _ T12 (mkF m 80 _ [(.int x3), (.ref o1)])
        refine own_go (fun _ => XS.iconst X12.here hx rfl (hb hby d1_80)) ?_
        show own_WP p e below _ T12 (mkF m 81 _ [(.int (2 : Int32)), (.int x3), (.ref o1)])
        refine own_go (fun _ => XS.iload X12.here hx rfl (hb hby d1_81) rfl) ?_
        show own_WP p e below _ T12 (mkF m 83 #[.val (.ref o0), .val (.ref o1), .val (.ref o2), .val (.int x3), .val (.int x4), .val (.int x5), .val (.int x6), .val (.int x7), .val (.int x8), .val (.int x9)] [(.int x5), (.int (2 : Int32)), (.int x3), (.ref o1)])
        obtain ⟨T13, v13, L13, X13, ⟨rfl, rfl, e13⟩, st13⟩ := own_callS X12 C (rm2 l Z a0 hw (2 : Int32) x5 h12) (hw _ (List.mem_of_getElem? (i := 7) rfl)) (hw _ (List.mem_of_getElem? (i := 8) rfl)) (hw _ (List.mem_of_getElem? (i := 5) rfl)) (hw _ (List.mem_of_getElem? (i := 9) rfl)) (by decide) e12 (W := 2) (pc := 83) (Ls := #[.val (.ref o0), .val (.ref o1), .val (.ref o2), .val (.int x3), .val (.int x4), .val (.int x5), .val (.int x6), .val (.int x7), .val (.int x8), .val (.int x9)]) rfl (lenOf pd2 rfl) (rest := [(.int x3), (.ref o1)]) (stk := [(.int x5), (.int (2 : Int32)), (.int x3), (.ref o1)]) rfl (Nat.le_of_ble_eq_true rfl) (hb hby d1_83) (by decide) (by decide) (by decide) (by decide)
        rw [List.append_nil] at X13
        refine own_go st13 ?_
        clear st13 X12 e12
        show own_WP p e below _ T13 (mkF m 86 _ [(.int (f2_0 (2 : Int32) x5)), (.int x3), (.ref o1)])
        obtain ⟨u14, hg14, hv⟩ := own_bind hv
        obtain ⟨T14, h14, X14, e14, W14, V'14, st14⟩ := own_iastore X13 C e13 V_o1 (j := x3) (x := (f2_0 (2 : Int32) x5)) hg14 (hb hby d1_86)
        refine own_go st14 ?_
        replace V_o0 := V_o0.other W14 (own_ne (by omega))
        replace V_o2 := V_o2.other W14 (own_ne (by omega))
        replace V_o1 := V'14
        clear V'14
        replace K := K.wr W14 (Or.inl (List.mem_of_getElem? (i := 1) rfl))
        replace N := Fr.snoc X14 N (by omega)
        clear st14 W14 hg14 X13 e13
        show own_WP p e below _ T14 (mkF m 87 _ [])
        refine own_go (fun _ => XS.aloadN X14.here hx rfl (hb hby d1_87) rfl rfl) ?_
        show own_WP p e below _ T14 (mkF m 88 _ [(.ref o2)])
        refine own_go (fun _ => XS.iloadN X14.here hx rfl (hb hby d1_88) rfl) ?_
        show own_WP p e below _ T14 (mkF m 89 _ [(.int x3), (.ref o2)])
        refine own_go (fun _ => XS.iload X14.here hx rfl (hb hby d1_89) rfl) ?_
        show own_WP p e below _ T14 (mkF m 91 _ [(.int x8), (.int x3), (.ref o2)])
        obtain ⟨u15, hg15, hv⟩ := own_bind hv
        obtain ⟨T15, h15, X15, e15, W15, V'15, st15⟩ := own_iastore X14 C e14 V_o2 (j := x3) (x := x8) hg15 (hb hby d1_91)
        refine own_go st15 ?_
        replace V_o0 := V_o0.other W15 (own_ne (by omega))
        replace V_o1 := V_o1.other W15 (own_ne (by omega))
        replace V_o2 := V'15
        clear V'15
        replace K := K.wr W15 (Or.inl (List.mem_of_getElem? (i := 2) rfl))
        replace N := Fr.snoc X15 N (by omega)
        clear st15 W15 hg15 X14 e14
        show own_WP p e below _ T15 (mkF m 92 _ [])
        refine own_go (fun _ => XS.goto X15.here hx rfl (pc0 := 92) (pc' := 118) rfl (hb hby d1_92) (by decide) (by decide)) ?_
        show own_WP p e below _ T15 (mkF m 118 #[.val (.ref o0), .val (.ref o1), .val (.ref o2), .val (.int x3), .val (.int x4), .val (.int x5), .val (.int x6), .val (.int x7), .val (.int x8), .val (.int x9)] [])
        obtain rfl := Option.some.inj hv
        exact own_retV X15 C (hb hby d1_118) (by rw [e15]; exact hP _ _ _ N K ⟨rfl, V_o0, V_o1, V_o2⟩) (by decide) (by decide)
      · replace hv := (if_neg h66).symm.trans hv
        refine own_go (fun _ => XS.icmpYes X.here hx rfl (pc0 := 66) (pc' := 95) rfl (hb hby d1_66) rfl (XT.ii_ne_t h66) (by decide) (by decide)) ?_
        show own_WP p e below _ T (mkF m 95 #[.val (.ref o0), .val (.ref o1), .val (.ref o2), .val (.int x3), .val (.int x4), .val (.int x5), .val (.int x6), .val (.int x7), .val (.int x8), .val (.int x9)] [])
        refine own_go (fun _ => XS.aloadN X.here hx rfl (hb hby d1_95) rfl rfl) ?_
        show own_WP p e below _ T (mkF m 96 _ [(.ref o0)])
        refine own_go (fun _ => XS.iloadN X.here hx rfl (hb hby d1_96) rfl) ?_
        show own_WP p e below _ T (mkF m 97 _ [(.int x3), (.ref o0)])
        refine own_go (fun _ => XS.iconst X.here hx rfl (hb hby d1_97)) ?_
        show own_WP p e below _ T (mkF m 98 _ [(.int (2 : Int32)), (.int x3), (.ref o0)])
        refine own_go (fun _ => XS.iload X.here hx rfl (hb hby d1_98) rfl) ?_
        show own_WP p e below _ T (mkF m 100 #[.val (.ref o0), .val (.ref o1), .val (.ref o2), .val (.int x3), .val (.int x4), .val (.int x5), .val (.int x6), .val (.int x7), .val (.int x8), .val (.int x9)] [(.int x5), (.int (2 : Int32)), (.int x3), (.ref o0)])
        obtain ⟨T16, v16, L16, X16, ⟨rfl, rfl, e16⟩, st16⟩ := own_callS X C (rm2 l Z a0 hw (2 : Int32) x5 h) (hw _ (List.mem_of_getElem? (i := 7) rfl)) (hw _ (List.mem_of_getElem? (i := 8) rfl)) (hw _ (List.mem_of_getElem? (i := 5) rfl)) (hw _ (List.mem_of_getElem? (i := 9) rfl)) (by decide) e0 (W := 2) (pc := 100) (Ls := #[.val (.ref o0), .val (.ref o1), .val (.ref o2), .val (.int x3), .val (.int x4), .val (.int x5), .val (.int x6), .val (.int x7), .val (.int x8), .val (.int x9)]) rfl (lenOf pd2 rfl) (rest := [(.int x3), (.ref o0)]) (stk := [(.int x5), (.int (2 : Int32)), (.int x3), (.ref o0)]) rfl (Nat.le_of_ble_eq_true rfl) (hb hby d1_100) (by decide) (by decide) (by decide) (by decide)
        rw [List.append_nil] at X16
        refine own_go st16 ?_
        clear st16 X e0
        show own_WP p e below _ T16 (mkF m 103 _ [(.int (f2_0 (2 : Int32) x5)), (.int x3), (.ref o0)])
        obtain ⟨u17, hg17, hv⟩ := own_bind hv
        obtain ⟨T17, h17, X17, e17, W17, V'17, st17⟩ := own_iastore X16 C e16 V_o0 (j := x3) (x := (f2_0 (2 : Int32) x5)) hg17 (hb hby d1_103)
        refine own_go st17 ?_
        replace V_o1 := V_o1.other W17 (own_ne (by omega))
        replace V_o2 := V_o2.other W17 (own_ne (by omega))
        replace V_o0 := V'17
        clear V'17
        replace K := K.wr W17 (Or.inl (List.mem_of_getElem? (i := 0) rfl))
        replace N := Fr.snoc X17 N (by omega)
        clear st17 W17 hg17 X16 e16
        show own_WP p e below _ T17 (mkF m 104 _ [])
        refine own_go (fun _ => XS.aloadN X17.here hx rfl (hb hby d1_104) rfl rfl) ?_
        show own_WP p e below _ T17 (mkF m 105 _ [(.ref o1)])
        refine own_go (fun _ => XS.iloadN X17.here hx rfl (hb hby d1_105) rfl) ?_
        show own_WP p e below _ T17 (mkF m 106 _ [(.int x3), (.ref o1)])
        refine own_go (fun _ => XS.iconst X17.here hx rfl (hb hby d1_106)) ?_
        show own_WP p e below _ T17 (mkF m 107 _ [(.int (1 : Int32)), (.int x3), (.ref o1)])
        refine own_go (fun _ => XS.iload X17.here hx rfl (hb hby d1_107) rfl) ?_
        show own_WP p e below _ T17 (mkF m 109 #[.val (.ref o0), .val (.ref o1), .val (.ref o2), .val (.int x3), .val (.int x4), .val (.int x5), .val (.int x6), .val (.int x7), .val (.int x8), .val (.int x9)] [(.int x5), (.int (1 : Int32)), (.int x3), (.ref o1)])
        obtain ⟨T18, v18, L18, X18, ⟨rfl, rfl, e18⟩, st18⟩ := own_callS X17 C (rm2 l Z a0 hw (1 : Int32) x5 h17) (hw _ (List.mem_of_getElem? (i := 7) rfl)) (hw _ (List.mem_of_getElem? (i := 8) rfl)) (hw _ (List.mem_of_getElem? (i := 5) rfl)) (hw _ (List.mem_of_getElem? (i := 9) rfl)) (by decide) e17 (W := 2) (pc := 109) (Ls := #[.val (.ref o0), .val (.ref o1), .val (.ref o2), .val (.int x3), .val (.int x4), .val (.int x5), .val (.int x6), .val (.int x7), .val (.int x8), .val (.int x9)]) rfl (lenOf pd2 rfl) (rest := [(.int x3), (.ref o1)]) (stk := [(.int x5), (.int (1 : Int32)), (.int x3), (.ref o1)]) rfl (Nat.le_of_ble_eq_true rfl) (hb hby d1_109) (by decide) (by decide) (by decide) (by decide)
        rw [List.append_nil] at X18
        refine own_go st18 ?_
        clear st18 X17 e17
        show own_WP p e below _ T18 (mkF m 112 _ [(.int (f2_0 (1 : Int32) x5)), (.int x3), (.ref o1)])
        obtain ⟨u19, hg19, hv⟩ := own_bind hv
        obtain ⟨T19, h19, X19, e19, W19, V'19, st19⟩ := own_iastore X18 C e18 V_o1 (j := x3) (x := (f2_0 (1 : Int32) x5)) hg19 (hb hby d1_112)
        refine own_go st19 ?_
        replace V_o0 := V_o0.other W19 (own_ne (by omega))
        replace V_o2 := V_o2.other W19 (own_ne (by omega))
        replace V_o1 := V'19
        clear V'19
        replace K := K.wr W19 (Or.inl (List.mem_of_getElem? (i := 1) rfl))
        replace N := Fr.snoc X19 N (by omega)
        clear st19 W19 hg19 X18 e18
        show own_WP p e below _ T19 (mkF m 113 _ [])
        refine own_go (fun _ => XS.aloadN X19.here hx rfl (hb hby d1_113) rfl rfl) ?_
        show own_WP p e below _ T19 (mkF m 114 _ [(.ref o2)])
        refine own_go (fun _ => XS.iloadN X19.here hx rfl (hb hby d1_114) rfl) ?_
        show own_WP p e below _ T19 (mkF m 115 _ [(.int x3), (.ref o2)])
        refine own_go (fun _ => XS.iload X19.here hx rfl (hb hby d1_115) rfl) ?_
        show own_WP p e below _ T19 (mkF m 117 _ [(.int x9), (.int x3), (.ref o2)])
        obtain ⟨u20, hg20, hv⟩ := own_bind hv
        obtain ⟨T20, h20, X20, e20, W20, V'20, st20⟩ := own_iastore X19 C e19 V_o2 (j := x3) (x := x9) hg20 (hb hby d1_117)
        refine own_go st20 ?_
        replace V_o0 := V_o0.other W20 (own_ne (by omega))
        replace V_o1 := V_o1.other W20 (own_ne (by omega))
        replace V_o2 := V'20
        clear V'20
        replace K := K.wr W20 (Or.inl (List.mem_of_getElem? (i := 2) rfl))
        replace N := Fr.snoc X20 N (by omega)
        clear st20 W20 hg20 X19 e19
        show own_WP p e below _ T20 (mkF m 118 #[.val (.ref o0), .val (.ref o1), .val (.ref o2), .val (.int x3), .val (.int x4), .val (.int x5), .val (.int x6), .val (.int x7), .val (.int x8), .val (.int x9)] [])
        obtain rfl := Option.some.inj hv
        exact own_retV X20 C (hb hby d1_118) (by rw [e20]; exact hP _ _ _ N K ⟨rfl, V_o0, V_o1, V_o2⟩) (by decide) (by decide)
theorem ef1 (m : MethodId) (o0 : Nat) (o1 : Nat) (o2 : Nat) (x3 : Int32) (x4 : Int32) (x5 : Int32) (x6 : Int32) (x7 : Int32) (x8 : Int32) (x9 : Int32) : entryFrame m #[(.ref o0), (.ref o1), (.ref o2), (.int x3), (.int x4), (.int x5), (.int x6), (.int x7), (.int x8), (.int x9)] 10 = (mkF m 0 #[.val (.ref o0), .val (.ref o1), .val (.ref o2), .val (.int x3), .val (.int x4), .val (.int x5), .val (.int x6), .val (.int x7), .val (.int x8), .val (.int x9)] []) := by first | (simp [entryFrame, mkF, argsToLocals, Value.category]; done) | rfl
theorem pd1 : parseMethodDescriptor "([I[I[IIIIIIII)V" = some ⟨[(.array .int), (.array .int), (.array .int), .int, .int, .int, .int, .int, .int, .int], none⟩ := by decide +kernel
theorem pn1 : plainFor (⟨"com/example/gridfare/gridfare/engine/ResidualNetworkFlowsPinLaw", "put", "([I[I[IIIIIIII)V"⟩ : MethodName) = true := plainFor_of_name (by first | (simp [plainName, overriddenIn]; done) | decide +kernel)
theorem rm1 (l : Launch) (Z : State) (a0 : Array Value) (hw : ∀ d ∈ tables_1, d.before a0 Z = true) (n0 : Nat) (h0 : Heap) (Z0 : n0 ≤ h0.size) {o0 : Nat} {o1 : Nat} {o2 : Nat} {v_o0 : List Int32} {v_o1 : List Int32} {v_o2 : List Int32} (o_o0_o1 : o0 < o1) (o_o1_o2 : o1 < o2) (g_o0 : n0 ≤ o0) (V_o0 : own_AI Z h0 o0 .int v_o0) (V_o1 : own_AI Z h0 o1 .int v_o1) (V_o2 : own_AI Z h0 o2 .int v_o2) (x3 : Int32) (x4 : Int32) (x5 : Int32) (x6 : Int32) (x7 : Int32) (x8 : Int32) (x9 : Int32)  (rr : (List Int32) × (List Int32) × (List Int32)) (hf : f1_0 v_o0 v_o1 v_o2 x3 x4 x5 x6 x7 x8 x9 = some rr) :
    own_Met l Z (⟨"com/example/gridfare/gridfare/engine/ResidualNetworkFlowsPinLaw", "put", "([I[I[IIIIIIII)V"⟩ : MethodName) method_4_code 10 none [] rmR1 #[(.ref o0), (.ref o1), (.ref o2), (.int x3), (.int x4), (.int x5), (.int x6), (.int x7), (.int x8), (.int x9)] h0 (fun v h L => Fr n0 L ∧ Keep h0 h [o0, o1, o2] ∧ E1 Z h0 o0 o1 o2 rr v h) := by
  refine own_body pn1 ?_
  intro p e s m below meth c s₁ C X e0
  exact own_cast (ef1 m o0 o1 o2 x3 x4 x5 x6 x7 x8 x9) (b1_0 hw C Z0 rr (fun v h L a b c => ⟨a, b, c⟩) X e0 (Fr.nil n0) (Keep.refl h0 [o0, o1, o2]) o_o0_o1 o_o1_o2 g_o0 V_o0 V_o1 V_o2 x3 x4 x5 x6 x7 x8 x9 hf)
theorem d5_0 : decode jdk_29_method_28_code 0 = .ok (.iload_n 0, 1) := by decide +kernel
theorem d5_1 : decode jdk_29_method_28_code 1 = .ok (.i2l, 1) := by decide +kernel
theorem d5_2 : decode jdk_29_method_28_code 2 = .ok (.iload_n 1, 1) := by decide +kernel
theorem d5_3 : decode jdk_29_method_28_code 3 = .ok (.i2l, 1) := by decide +kernel
theorem d5_4 : decode jdk_29_method_28_code 4 = .ok (.lmul, 1) := by decide +kernel
theorem d5_5 : decode jdk_29_method_28_code 5 = .ok (.lstore_n 2, 1) := by decide +kernel
theorem d5_6 : decode jdk_29_method_28_code 6 = .ok (.lload_n 2, 1) := by decide +kernel
theorem d5_7 : decode jdk_29_method_28_code 7 = .ok (.l2i, 1) := by decide +kernel
theorem d5_8 : decode jdk_29_method_28_code 8 = .ok (.i2l, 1) := by decide +kernel
theorem d5_9 : decode jdk_29_method_28_code 9 = .ok (.lload_n 2, 1) := by decide +kernel
theorem d5_10 : decode jdk_29_method_28_code 10 = .ok (.lcmp, 1) := by decide +kernel
theorem d5_11 : decode jdk_29_method_28_code 11 = .ok (.ifCond .eq 13, 3) := by decide +kernel
theorem d5_24 : decode jdk_29_method_28_code 24 = .ok (.lload_n 2, 1) := by decide +kernel
theorem d5_25 : decode jdk_29_method_28_code 25 = .ok (.l2i, 1) := by decide +kernel
theorem d5_26 : decode jdk_29_method_28_code 26 = .ok (.ireturn, 1) := by decide +kernel
def rmR5 : Room := { frames := 0, cells := 0, slots := 0, locals := 0 }
def E5 (Z : State) (h0 : Heap)   (rr : Int32) (v : Option Value) (h : Heap) : Prop := v = some (.int rr)
def f5_0 (x0 : Int32) (x1 : Int32) : Option (Int32) := (if ((((x0.toInt64) * (x1.toInt64)).toInt32).toInt64) = ((x0.toInt64) * (x1.toInt64)) then (some (((x0.toInt64) * (x1.toInt64)).toInt32)) else none)
set_option maxRecDepth 65536 in
set_option maxHeartbeats 40000000 in
theorem b5_0 {p : Program} {l : Launch} {e : Env} {s : State} {m : MethodId} {args : Array Value} {below : List Frame} {meth : Method} {c : Code} {Z : State} {a0 : Array Value} {h0 : Heap} {n0 : Nat} {P : Option Value → Heap → List Loc → Prop} (hw : ∀ d ∈ tables_1, d.before a0 Z = true) (C : own_Ctx p s m meth c Z (⟨"java/lang/Math", "multiplyExact", "(II)I"⟩ : MethodName) jdk_29_method_28_code 4 (some .int)) (Z0 : n0 ≤ h0.size)   (rr : Int32) (hP : ∀ v h L, Fr n0 L → Keep h0 h [] → E5 Z h0  rr v h → P v h L)
    {T : State} {locs : List Loc} {h : Heap} (X : Stand p l e rmR5 s m args below meth c T locs 0 0) (e0 : T.heap = h) (N : Fr n0 locs) (K : Keep h0 h []) (x0 : Int32) (x1 : Int32) (hv : f5_0 x0 x1 = some rr) :
    own_WP p e below (own_Q s P rmR5.cells rmR5.slots) T (mkF m 0 #[.val (.int x0), .val (.int x1), .unset, .unset] []) := by
  obtain ⟨hx, hZ, hby, hml, hown, hnm, hret, hlk⟩ := id C
  replace hown : s.vm.findClass "java/lang/Math" = some m.cls := hown
  unfold f5_0 at hv
  show own_WP p e below _ T (mkF m 0 #[.val (.int x0), .val (.int x1), .unset, .unset] [])
  refine own_go (fun _ => XS.iloadN X.here hx rfl (hb hby d5_0) rfl) ?_
  show own_WP p e below _ T (mkF m 1 _ [(.int x0)])
  refine own_go (fun _ => XS.i2l X.here hx rfl (hb hby d5_1) rfl) ?_
  show own_WP p e below _ T (mkF m 2 _ [(.long (x0.toInt64))])
  refine own_go (fun _ => XS.iloadN X.here hx rfl (hb hby d5_2) rfl) ?_
  show own_WP p e below _ T (mkF m 3 _ [(.int x1), (.long (x0.toInt64))])
  refine own_go (fun _ => XS.i2l X.here hx rfl (hb hby d5_3) rfl) ?_
  show own_WP p e below _ T (mkF m 4 _ [(.long (x1.toInt64)), (.long (x0.toInt64))])
  refine own_go (fun _ => XS.lmul X.here hx rfl (hb hby d5_4) rfl) ?_
  show own_WP p e below _ T (mkF m 5 #[.val (.int x0), .val (.int x1), .unset, .unset] [(.long ((x0.toInt64) * (x1.toInt64)))])
  refine own_go (fun _ => XS.lstoreN X.here hx rfl (hb hby d5_5) rfl rfl) ?_
  show own_WP p e below _ T (mkF m 6 #[.val (.int x0), .val (.int x1), .val (.long ((x0.toInt64) * (x1.toInt64))), .second] [])
  refine own_go (fun _ => XS.lloadN X.here hx rfl (hb hby d5_6) rfl) ?_
  show own_WP p e below _ T (mkF m 7 _ [(.long ((x0.toInt64) * (x1.toInt64)))])
  refine own_go (fun _ => XS.l2i X.here hx rfl (hb hby d5_7) rfl) ?_
  show own_WP p e below _ T (mkF m 8 _ [(.int (((x0.toInt64) * (x1.toInt64)).toInt32))])
  refine own_go (fun _ => XS.i2l X.here hx rfl (hb hby d5_8) rfl) ?_
  show own_WP p e below _ T (mkF m 9 _ [(.long ((((x0.toInt64) * (x1.toInt64)).toInt32).toInt64))])
  refine own_go (fun _ => XS.lloadN X.here hx rfl (hb hby d5_9) rfl) ?_
  show own_WP p e below _ T (mkF m 10 _ [(.long ((x0.toInt64) * (x1.toInt64))), (.long ((((x0.toInt64) * (x1.toInt64)).toInt32).toInt64))])
  refine own_go (fun _ => XT.lcmp X.here hx rfl (hb hby d5_10) rfl) ?_
  show own_WP p e below _ T (mkF m 11 _ [(.int (XT.cmpL ((((x0.toInt64) * (x1.toInt64)).toInt32).toInt64) ((x0.toInt64) * (x1.toInt64))))])
  by_cases h11 : ((((x0.toInt64) * (x1.toInt64)).toInt32).toInt64) = ((x0.toInt64) * (x1.toInt64))
  · replace hv := (if_pos h11).symm.trans hv
    refine own_go (fun _ => XS.ifYes X.here hx rfl (pc0 := 11) (pc' := 24) rfl (hb hby d5_11) rfl (XT.ll_eq_t h11) (by decide) (by decide)) ?_
    show own_WP p e below _ T (mkF m 24 #[.val (.int x0), .val (.int x1), .val (.long ((x0.toInt64) * (x1.toInt64))), .second] [])
    refine own_go (fun _ => XS.lloadN X.here hx rfl (hb hby d5_24) rfl) ?_
    show own_WP p e below _ T (mkF m 25 _ [(.long ((x0.toInt64) * (x1.toInt64)))])
    refine own_go (fun _ => XS.l2i X.here hx rfl (hb hby d5_25) rfl) ?_
    show own_WP p e below _ T (mkF m 26 #[.val (.int x0), .val (.int x1), .val (.long ((x0.toInt64) * (x1.toInt64))), .second] [(.int (((x0.toInt64) * (x1.toInt64)).toInt32))])
    obtain rfl := Option.some.inj hv
    exact own_retI X C (hb hby d5_26) (by rw [e0]; exact hP _ _ _ N K rfl) (by decide) (by decide)
  · replace hv := (if_neg h11).symm.trans hv
    refine own_go (fun _ => XS.ifNo X.here hx rfl (hb hby d5_11) rfl (XT.ll_eq_f h11)) ?_
    cases hv
theorem ef5 (m : MethodId) (x0 : Int32) (x1 : Int32) : entryFrame m #[(.int x0), (.int x1)] 4 = (mkF m 0 #[.val (.int x0), .val (.int x1), .unset, .unset] []) := by first | (simp [entryFrame, mkF, argsToLocals, Value.category]; done) | rfl
theorem pd5 : parseMethodDescriptor "(II)I" = some ⟨[.int, .int], some .int⟩ := by decide +kernel
theorem pn5 : plainFor (⟨"java/lang/Math", "multiplyExact", "(II)I"⟩ : MethodName) = true := Jvm.Free.JP.mathPlain rfl (by decide +kernel)
theorem rm5 (l : Launch) (Z : State) (a0 : Array Value) (hw : ∀ d ∈ tables_1, d.before a0 Z = true) (n0 : Nat) (h0 : Heap) (Z0 : n0 ≤ h0.size)      (x0 : Int32) (x1 : Int32)  (rr : Int32) (hf : f5_0 x0 x1 = some rr) :
    own_Met l Z (⟨"java/lang/Math", "multiplyExact", "(II)I"⟩ : MethodName) jdk_29_method_28_code 4 (some .int) [] rmR5 #[(.int x0), (.int x1)] h0 (fun v h L => Fr n0 L ∧ Keep h0 h [] ∧ E5 Z h0  rr v h) := by
  refine own_body pn5 ?_
  intro p e s m below meth c s₁ C X e0
  exact own_cast (ef5 m x0 x1) (b5_0 hw C Z0 rr (fun v h L a b c => ⟨a, b, c⟩) X e0 (Fr.nil n0) (Keep.refl h0 []) x0 x1 hf)
theorem d6_0 : decode jdk_65_method_123_code 0 = .ok (.iload_n 1, 1) := by decide +kernel
theorem d6_1 : decode jdk_65_method_123_code 1 = .ok (.aload_n 0, 1) := by decide +kernel
theorem d6_2 : decode jdk_65_method_123_code 2 = .ok (.arraylength, 1) := by decide +kernel
theorem d6_3 : decode jdk_65_method_123_code 3 = .ok (.if_icmp .ne 11, 3) := by decide +kernel
theorem d6_14 : decode jdk_65_method_123_code 14 = .ok (.iload_n 1, 1) := by decide +kernel
theorem d6_15 : decode jdk_65_method_123_code 15 = .ok (.newarray .int, 2) := by decide +kernel
theorem d6_17 : decode jdk_65_method_123_code 17 = .ok (.astore_n 2, 1) := by decide +kernel
theorem d6_18 : decode jdk_65_method_123_code 18 = .ok (.aload_n 0, 1) := by decide +kernel
theorem d6_19 : decode jdk_65_method_123_code 19 = .ok (.iconst 0, 1) := by decide +kernel
theorem d6_20 : decode jdk_65_method_123_code 20 = .ok (.aload_n 2, 1) := by decide +kernel
theorem d6_21 : decode jdk_65_method_123_code 21 = .ok (.iconst 0, 1) := by decide +kernel
theorem d6_22 : decode jdk_65_method_123_code 22 = .ok (.aload_n 0, 1) := by decide +kernel
theorem d6_23 : decode jdk_65_method_123_code 23 = .ok (.arraylength, 1) := by decide +kernel
theorem d6_24 : decode jdk_65_method_123_code 24 = .ok (.iload_n 1, 1) := by decide +kernel
theorem d6_25 : decode jdk_65_method_123_code 25 = .ok (.invokestatic 304, 3) := by decide +kernel
theorem d6_28 : decode jdk_65_method_123_code 28 = .ok (.invokestatic 150, 3) := by decide +kernel
theorem d6_31 : decode jdk_65_method_123_code 31 = .ok (.aload_n 2, 1) := by decide +kernel
theorem d6_32 : decode jdk_65_method_123_code 32 = .ok (.areturn, 1) := by decide +kernel
def rmR6 : Room := { frames := 1, cells := 1, slots := 3, locals := 18 }
def E6 (Z : State) (h0 : Heap) (o0 : Nat) (vs : List Int32) (rr : (List Int32)) (v : Option Value) (h : Heap) : Prop := ∃ b15, h0.size ≤ b15 ∧ v = some (.ref b15) ∧ own_AI Z h b15 .int rr
def f6_0 (vs : List Int32) (x1 : Int32) : Option ((List Int32)) := (if x1 = (Int32.ofNat vs.length) then none else (if x1 < 0 ∨ 3 < x1.toInt then none else ((own_copyL vs (0 : Int32) (List.replicate (x1).toNatClampNeg 0) (0 : Int32) (f7_0 (Int32.ofNat vs.length) x1)).bind fun u3 => (some u3))))
set_option maxRecDepth 65536 in
set_option maxHeartbeats 40000000 in
theorem b6_0 {p : Program} {l : Launch} {e : Env} {s : State} {m : MethodId} {args : Array Value} {below : List Frame} {meth : Method} {c : Code} {Z : State} {a0 : Array Value} {h0 : Heap} {n0 : Nat} {P : Option Value → Heap → List Loc → Prop} (hw : ∀ d ∈ tables_1, d.before a0 Z = true) (C : own_Ctx p s m meth c Z (⟨"java/util/Arrays", "copyOf", "([II)[I"⟩ : MethodName) jdk_65_method_123_code 3 (some (.array .int))) (Z0 : n0 ≤ h0.size) {o0 : Nat} {vs : List Int32} (rr : (List Int32)) (hP : ∀ v h L, Fr n0 L → Keep h0 h [] → E6 Z h0 o0 vs rr v h → P v h L)
    {T : State} {locs : List Loc} {h : Heap} (X : Stand p l e rmR6 s m args below meth c T locs 0 0) (e0 : T.heap = h) (N : Fr n0 locs) (K : Keep h0 h []) (g_o0 : n0 ≤ o0) (V_o0 : own_AI Z h o0 .int vs) (x1 : Int32) (hv : f6_0 vs x1 = some rr) :
    own_WP p e below (own_Q s P rmR6.cells rmR6.slots) T (mkF m 0 #[.val (.ref o0), .val (.int x1), .unset] []) := by
  obtain ⟨hx, hZ, hby, hml, hown, hnm, hret, hlk⟩ := id C
  replace hown : s.vm.findClass "java/util/Arrays" = some m.cls := hown
  unfold f6_0 at hv
  show own_WP p e below _ T (mkF m 0 #[.val (.ref o0), .val (.int x1), .unset] [])
  refine own_go (fun _ => XS.iloadN X.here hx rfl (hb hby d6_0) rfl) ?_
  show own_WP p e below _ T (mkF m 1 _ [(.int x1)])
  refine own_go (fun _ => XS.aloadN X.here hx rfl (hb hby d6_1) rfl rfl) ?_
  show own_WP p e below _ T (mkF m 2 _ [(.ref o0), (.int x1)])
  refine own_go (own_lenI X C e0 V_o0 (hb hby d6_2)) ?_
  show own_WP p e below _ T (mkF m 3 _ [(.int (Int32.ofNat vs.length)), (.int x1)])
  by_cases h3 : x1 = (Int32.ofNat vs.length)
  · replace hv := (if_pos h3).symm.trans hv
    refine own_go (fun _ => XS.icmpNo X.here hx rfl (hb hby d6_3) rfl (XT.ii_ne_f h3)) ?_
    cases hv
  · replace hv := (if_neg h3).symm.trans hv
    refine own_go (fun _ => XS.icmpYes X.here hx rfl (pc0 := 3) (pc' := 14) rfl (hb hby d6_3) rfl (XT.ii_ne_t h3) (by decide) (by decide)) ?_
    show own_WP p e below _ T (mkF m 14 #[.val (.ref o0), .val (.int x1), .unset] [])
    refine own_go (fun _ => XS.iloadN X.here hx rfl (hb hby d6_14) rfl) ?_
    show own_WP p e below _ T (mkF m 15 #[.val (.ref o0), .val (.int x1), .unset] [(.int x1)])
    by_cases h15 : x1 < 0 ∨ 3 < x1.toInt
    · cases ((if_pos h15).symm.trans hv)
    replace hv := (if_neg h15).symm.trans hv
    obtain ⟨T1, h1, b15, X1, e1, E1, hb_b15, V_b15, st1⟩ := own_newI X C e0 (aty := .int) (ty := .int) rfl rfl rfl (hw _ (List.mem_of_getElem? (i := 2) rfl)) (n := x1) (fun q => h15 (Or.inl q)) (cap := 3) (own_cap (k := 3) rfl (fun q => h15 (Or.inr q))) (by decide) (by decide) (by decide) (pc := 15) (Ls := #[.val (.ref o0), .val (.int x1), .unset]) (rest := []) (hb hby d6_15)
    refine own_go st1 ?_
    have o_o0_b15 : o0 < b15 := by have q : o0 < h.size := V_o0.lt; omega
    have z_b15 : h0.size ≤ b15 := by have q := K.1; omega
    replace V_o0 := V_o0.ext E1
    replace K := K.ext E1
    clear st1 E1 hb_b15 X e0
    show own_WP p e below _ T1 (mkF m 17 #[.val (.ref o0), .val (.int x1), .unset] [(.ref b15)])
    refine own_go (fun _ => XS.astoreN X1.here hx rfl (hb hby d6_17) rfl rfl rfl) ?_
    show own_WP p e below _ T1 (mkF m 18 #[.val (.ref o0), .val (.int x1), .val (.ref b15)] [])
    refine own_go (fun _ => XS.aloadN X1.here hx rfl (hb hby d6_18) rfl rfl) ?_
    show own_WP p e below _ T1 (mkF m 19 _ [(.ref o0)])
    refine own_go (fun _ => XS.iconst X1.here hx rfl (hb hby d6_19)) ?_
    show own_WP p e below _ T1 (mkF m 20 _ [(.int (0 : Int32)), (.ref o0)])
    refine own_go (fun _ => XS.aloadN X1.here hx rfl (hb hby d6_20) rfl rfl) ?_
    show own_WP p e below _ T1 (mkF m 21 _ [(.ref b15), (.int (0 : Int32)), (.ref o0)])
    refine own_go (fun _ => XS.iconst X1.here hx rfl (hb hby d6_21)) ?_
    show own_WP p e below _ T1 (mkF m 22 _ [(.int (0 : Int32)), (.ref b15), (.int (0 : Int32)), (.ref o0)])
    refine own_go (fun _ => XS.aloadN X1.here hx rfl (hb hby d6_22) rfl rfl) ?_
    show own_WP p e below _ T1 (mkF m 23 _ [(.ref o0), (.int (0 : Int32)), (.ref b15), (.int (0 : Int32)), (.ref o0)])
    refine own_go (own_lenI X1 C e1 V_o0 (hb hby d6_23)) ?_
    show own_WP p e below _ T1 (mkF m 24 _ [(.int (Int32.ofNat vs.length)), (.int (0 : Int32)), (.ref b15), (.int (0 : Int32)), (.ref o0)])
    refine own_go (fun _ => XS.iloadN X1.here hx rfl (hb hby d6_24) rfl) ?_
    show own_WP p e below _ T1 (mkF m 25 #[.val (.ref o0), .val (.int x1), .val (.ref b15)] [(.int x1), (.int (Int32.ofNat vs.length)), (.int (0 : Int32)), (.ref b15), (.int (0 : Int32)), (.ref o0)])
    obtain ⟨T2, v2, L2, X2, ⟨rfl, rfl, e2⟩, st2⟩ := own_callS X1 C (rm7 l Z a0 hw (Int32.ofNat vs.length) x1 h1) (hw _ (List.mem_of_getElem? (i := 44) rfl)) (hw _ (List.mem_of_getElem? (i := 45) rfl)) (hw _ (List.mem_of_getElem? (i := 26) rfl)) (hw _ (List.mem_of_getElem? (i := 46) rfl)) (by decide) e1 (W := 4) (pc := 25) (Ls := #[.val (.ref o0), .val (.int x1), .val (.ref b15)]) rfl (lenOf pd7 rfl) (rest := [(.int (0 : Int32)), (.ref b15), (.int (0 : Int32)), (.ref o0)]) (stk := [(.int x1), (.int (Int32.ofNat vs.length)), (.int (0 : Int32)), (.ref b15), (.int (0 : Int32)), (.ref o0)]) rfl (Nat.le_of_ble_eq_true rfl) (hb hby d6_25) (by decide) (by decide) (by decide) (by decide)
    rw [List.append_nil] at X2
    refine own_go st2 ?_
    clear st2 X1 e1
    show own_WP p e below _ T2 (mkF m 28 #[.val (.ref o0), .val (.int x1), .val (.ref b15)] [(.int (f7_0 (Int32.ofNat vs.length) x1)), (.int (0 : Int32)), (.ref b15), (.int (0 : Int32)), (.ref o0)])
    obtain ⟨u3, hg3, hv⟩ := own_bind hv
    obtain ⟨T3, h3, L3, X3, e3, N3, K3, V'3, st3⟩ := own_copy X2 C e2 (hw _ (List.mem_of_getElem? (i := 47) rfl)) (hw _ (List.mem_of_getElem? (i := 50) rfl)) (hw _ (List.mem_of_getElem? (i := 48) rfl)) (hw _ (List.mem_of_getElem? (i := 49) rfl)) rfl V_o0 V_b15 hg3 N (by omega) (pc := 28) (Ls := #[.val (.ref o0), .val (.int x1), .val (.ref b15)]) rfl (rest := []) (hb hby d6_28) (by decide) (W := 0) (Nat.le_of_ble_eq_true rfl) (by decide)
    refine own_go st3 ?_
    replace V_o0 := V_o0.keep K3 (ninS (own_ne (by omega)) nin0)
    replace V_b15 := V'3
    clear V'3
    replace N := N3
    replace K := K.trans K3 (allS (Or.inr (by omega)) all0)
    show own_WP p e below _ T3 (mkF m 31 _ [])
    refine own_go (fun _ => XS.aloadN X3.here hx rfl (hb hby d6_31) rfl rfl) ?_
    show own_WP p e below _ T3 (mkF m 32 #[.val (.ref o0), .val (.int x1), .val (.ref b15)] [(.ref b15)])
    obtain rfl := Option.some.inj hv
    exact own_retA X3 C rfl (hb hby d6_32) (by rw [e3]; exact hP _ _ _ N K ⟨b15, (by omega), rfl, V_b15⟩) (by decide) (by decide)
theorem ef6 (m : MethodId) (o0 : Nat) (x1 : Int32) : entryFrame m #[(.ref o0), (.int x1)] 3 = (mkF m 0 #[.val (.ref o0), .val (.int x1), .unset] []) := by first | (simp [entryFrame, mkF, argsToLocals, Value.category]; done) | rfl
theorem pd6 : parseMethodDescriptor "([II)[I" = some ⟨[(.array .int), .int], some (.array .int)⟩ := by decide +kernel
theorem pn6 : plainFor (⟨"java/util/Arrays", "copyOf", "([II)[I"⟩ : MethodName) = true := plainFor_of_name (by first | (simp [plainName, overriddenIn]; done) | decide +kernel)
theorem rm6 (l : Launch) (Z : State) (a0 : Array Value) (hw : ∀ d ∈ tables_1, d.before a0 Z = true) (n0 : Nat) (h0 : Heap) (Z0 : n0 ≤ h0.size) {o0 : Nat} {vs : List Int32}  (g_o0 : n0 ≤ o0) (V_o0 : own_AI Z h0 o0 .int vs) (x1 : Int32)  (rr : (List Int32)) (hf : f6_0 vs x1 = some rr) :
    own_Met l Z (⟨"java/util/Arrays", "copyOf", "([II)[I"⟩ : MethodName) jdk_65_method_123_code 3 (some (.array .int)) [] rmR6 #[(.ref o0), (.int x1)] h0 (fun v h L => Fr n0 L ∧ Keep h0 h [] ∧ E6 Z h0 o0 vs rr v h) := by
  refine own_body pn6 ?_
  intro p e s m below meth c s₁ C X e0
  exact own_cast (ef6 m o0 x1) (b6_0 hw C Z0 rr (fun v h L a b c => ⟨a, b, c⟩) X e0 (Fr.nil n0) (Keep.refl h0 []) g_o0 V_o0 x1 hf)
theorem d9_0 : decode jdk_65_method_103_code 0 = .ok (.iconst 0, 1) := by decide +kernel
theorem d9_1 : decode jdk_65_method_103_code 1 = .ok (.istore_n 2, 1) := by decide +kernel
theorem d9_2 : decode jdk_65_method_103_code 2 = .ok (.aload_n 0, 1) := by decide +kernel
theorem d9_3 : decode jdk_65_method_103_code 3 = .ok (.arraylength, 1) := by decide +kernel
theorem d9_4 : decode jdk_65_method_103_code 4 = .ok (.istore_n 3, 1) := by decide +kernel
theorem d9_5 : decode jdk_65_method_103_code 5 = .ok (.iload_n 2, 1) := by decide +kernel
theorem d9_6 : decode jdk_65_method_103_code 6 = .ok (.iload_n 3, 1) := by decide +kernel
theorem d9_7 : decode jdk_65_method_103_code 7 = .ok (.if_icmp .ge 13, 3) := by decide +kernel
theorem d9_10 : decode jdk_65_method_103_code 10 = .ok (.aload_n 0, 1) := by decide +kernel
theorem d9_11 : decode jdk_65_method_103_code 11 = .ok (.iload_n 2, 1) := by decide +kernel
theorem d9_12 : decode jdk_65_method_103_code 12 = .ok (.iload_n 1, 1) := by decide +kernel
theorem d9_13 : decode jdk_65_method_103_code 13 = .ok (.iastore, 1) := by decide +kernel
theorem d9_14 : decode jdk_65_method_103_code 14 = .ok (.iinc 2 1, 3) := by decide +kernel
theorem d9_17 : decode jdk_65_method_103_code 17 = .ok (.goto (-12), 3) := by decide +kernel
theorem d9_20 : decode jdk_65_method_103_code 20 = .ok (.return_, 1) := by decide +kernel
def rmR9 : Room := { frames := 0, cells := 0, slots := 0, locals := 0 }
def E9 (Z : State) (h0 : Heap) (o0 : Nat)  (rr : (List Int32)) (v : Option Value) (h : Heap) : Prop := v = none ∧ own_AI Z h o0 .int rr
def f9_5 : Nat → (List Int32) → Int32 → Int32 → Int32 → Option ((List Int32))
  | 0 => fun _ _ _ _ => none
  | k + 1 => fun v_o0 x1 x2 x3 => (if x2 < x3 then ((own_set v_o0 x2 x1).bind fun u1 => (f9_5 k u1 x1 (x2 + (1 : Int32)) x3)) else (some v_o0))
set_option maxRecDepth 65536 in
set_option maxHeartbeats 40000000 in
theorem b9_5 {p : Program} {l : Launch} {e : Env} {s : State} {m : MethodId} {args : Array Value} {below : List Frame} {meth : Method} {c : Code} {Z : State} {a0 : Array Value} {h0 : Heap} {n0 : Nat} {P : Option Value → Heap → List Loc → Prop} (hw : ∀ d ∈ tables_1, d.before a0 Z = true) (C : own_Ctx p s m meth c Z (⟨"java/util/Arrays", "fill", "([II)V"⟩ : MethodName) jdk_65_method_103_code 4 none) (Z0 : n0 ≤ h0.size) {o0 : Nat}  (rr : (List Int32)) (hP : ∀ v h L, Fr n0 L → Keep h0 h [o0] → E9 Z h0 o0 rr v h → P v h L) (k : Nat) : ∀ {T : State} {locs : List Loc} {h : Heap} {v_o0 : List Int32} (X : Stand p l e rmR9 s m args below meth c T locs 0 0) (e0 : T.heap = h) (N : Fr n0 locs) (K : Keep h0 h [o0]) (g_o0 : n0 ≤ o0) (V_o0 : own_AI Z h o0 .int v_o0) (x1 : Int32) (x2 : Int32) (x3 : Int32) (hv : f9_5 k v_o0 x1 x2 x3 = some rr),
    own_WP p e below (own_Q s P rmR9.cells rmR9.slots) T (mkF m 5 #[.val (.ref o0), .val (.int x1), .val (.int x2), .val (.int x3)] []) := by
  obtain ⟨hx, hZ, hby, hml, hown, hnm, hret, hlk⟩ := id C
  replace hown : s.vm.findClass "java/util/Arrays" = some m.cls := hown
  induction k with
  | zero => intros; rename_i hv; cases hv
  | succ k ih =>
    intro T locs h v_o0 X e0 N K g_o0 V_o0 x1 x2 x3 hv
    unfold f9_5 at hv
    show own_WP p e below _ T (mkF m 5 #[.val (.ref o0), .val (.int x1), .val (.int x2), .val (.int x3)] [])
    refine own_go (fun _ => XS.iloadN X.here hx rfl (hb hby d9_5) rfl) ?_
    show own_WP p e below _ T (mkF m 6 _ [(.int x2)])
    refine own_go (fun _ => XS.iloadN X.here hx rfl (hb hby d9_6) rfl) ?_
    show own_WP p e below _ T (mkF m 7 _ [(.int x3), (.int x2)])
    by_cases h7 : x2 < x3
    · replace hv := (if_pos h7).symm.trans hv
      refine own_go (fun _ => XS.icmpNo X.here hx rfl (hb hby d9_7) rfl (XT.ii_ge_f h7)) ?_
      show own_WP p e below _ T (mkF m 10 #[.val (.ref o0), .val (.int x1), .val (.int x2), .val (.int x3)] [])
      refine own_go (fun _ => XS.aloadN X.here hx rfl (hb hby d9_10) rfl rfl) ?_
      show own_WP p e below _ T (mkF m 11 _ [(.ref o0)])
      refine own_go (fun _ => XS.iloadN X.here hx rfl (hb hby d9_11) rfl) ?_
      show own_WP p e below _ T (mkF m 12 _ [(.int x2), (.ref o0)])
      refine own_go (fun _ => XS.iloadN X.here hx rfl (hb hby d9_12) rfl) ?_
      show own_WP p e below _ T (mkF m 13 _ [(.int x1), (.int x2), (.ref o0)])
      obtain ⟨u1, hg1, hv⟩ := own_bind hv
      obtain ⟨T1, h1, X1, e1, W1, V'1, st1⟩ := own_iastore X C e0 V_o0 (j := x2) (x := x1) hg1 (hb hby d9_13)
      refine own_go st1 ?_
      replace V_o0 := V'1
      clear V'1
      replace K := K.wr W1 (Or.inl (List.mem_of_getElem? (i := 0) rfl))
      replace N := Fr.snoc X1 N (by omega)
      clear st1 W1 hg1 X e0
      show own_WP p e below _ T1 (mkF m 14 #[.val (.ref o0), .val (.int x1), .val (.int x2), .val (.int x3)] [])
      refine own_go (fun _ => XS.iinc X1.here hx rfl (hb hby d9_14) rfl rfl) ?_
      show own_WP p e below _ T1 (mkF m 17 #[.val (.ref o0), .val (.int x1), .val (.int (x2 + (1 : Int32))), .val (.int x3)] [])
      refine own_go (fun _ => XS.goto X1.here hx rfl (pc0 := 17) (pc' := 5) rfl (hb hby d9_17) (by decide) (by decide)) ?_
      exact ih X1 e1 N K g_o0 V_o0 x1 (x2 + (1 : Int32)) x3 hv
    · replace hv := (if_neg h7).symm.trans hv
      refine own_go (fun _ => XS.icmpYes X.here hx rfl (pc0 := 7) (pc' := 20) rfl (hb hby d9_7) rfl (XT.ii_ge_t h7) (by decide) (by decide)) ?_
      show own_WP p e below _ T (mkF m 20 #[.val (.ref o0), .val (.int x1), .val (.int x2), .val (.int x3)] [])
      obtain rfl := Option.some.inj hv
      exact own_retV X C (hb hby d9_20) (by rw [e0]; exact hP _ _ _ N K ⟨rfl, V_o0⟩) (by decide) (by decide)
def f9_0 (v_o0 : List Int32) (x1 : Int32) : Option ((List Int32)) := (f9_5 20 v_o0 x1 (0 : Int32) (Int32.ofNat v_o0.length))
set_option maxRecDepth 65536 in
set_option maxHeartbeats 40000000 in
theorem b9_0 {p : Program} {l : Launch} {e : Env} {s : State} {m : MethodId} {args : Array Value} {below : List Frame} {meth : Method} {c : Code} {Z : State} {a0 : Array Value} {h0 : Heap} {n0 : Nat} {P : Option Value → Heap → List Loc → Prop} (hw : ∀ d ∈ tables_1, d.before a0 Z = true) (C : own_Ctx p s m meth c Z (⟨"java/util/Arrays", "fill", "([II)V"⟩ : MethodName) jdk_65_method_103_code 4 none) (Z0 : n0 ≤ h0.size) {o0 : Nat}  (rr : (List Int32)) (hP : ∀ v h L, Fr n0 L → Keep h0 h [o0] → E9 Z h0 o0 rr v h → P v h L)
    {T : State} {locs : List Loc} {h : Heap} {v_o0 : List Int32} (X : Stand p l e rmR9 s m args below meth c T locs 0 0) (e0 : T.heap = h) (N : Fr n0 locs) (K : Keep h0 h [o0]) (g_o0 : n0 ≤ o0) (V_o0 : own_AI Z h o0 .int v_o0) (x1 : Int32) (hv : f9_0 v_o0 x1 = some rr) :
    own_WP p e below (own_Q s P rmR9.cells rmR9.slots) T (mkF m 0 #[.val (.ref o0), .val (.int x1), .unset, .unset] []) := by
  obtain ⟨hx, hZ, hby, hml, hown, hnm, hret, hlk⟩ := id C
  replace hown : s.vm.findClass "java/util/Arrays" = some m.cls := hown
  unfold f9_0 at hv
  show own_WP p e below _ T (mkF m 0 #[.val (.ref o0), .val (.int x1), .unset, .unset] [])
  refine own_go (fun _ => XS.iconst X.here hx rfl (hb hby d9_0)) ?_
  show own_WP p e below _ T (mkF m 1 #[.val (.ref o0), .val (.int x1), .unset, .unset] [(.int (0 : Int32))])
  refine own_go (fun _ => XS.istoreN X.here hx rfl (hb hby d9_1) rfl rfl) ?_
  show own_WP p e below _ T (mkF m 2 #[.val (.ref o0), .val (.int x1), .val (.int (0 : Int32)), .unset] [])
  refine own_go (fun _ => XS.aloadN X.here hx rfl (hb hby d9_2) rfl rfl) ?_
  show own_WP p e below _ T (mkF m 3 _ [(.ref o0)])
  refine own_go (own_lenI X C e0 V_o0 (hb hby d9_3)) ?_
  show own_WP p e below _ T (mkF m 4 #[.val (.ref o0), .val (.int x1), .val (.int (0 : Int32)), .unset] [(.int (Int32.ofNat v_o0.length))])
  refine own_go (fun _ => XS.istoreN X.here hx rfl (hb hby d9_4) rfl rfl) ?_
  show own_WP p e below _ T (mkF m 5 #[.val (.ref o0), .val (.int x1), .val (.int (0 : Int32)), .val (.int (Int32.ofNat v_o0.length))] [])
  exact b9_5 hw C Z0 rr hP 20 X e0 N K g_o0 V_o0 x1 (0 : Int32) (Int32.ofNat v_o0.length) hv
theorem ef9 (m : MethodId) (o0 : Nat) (x1 : Int32) : entryFrame m #[(.ref o0), (.int x1)] 4 = (mkF m 0 #[.val (.ref o0), .val (.int x1), .unset, .unset] []) := by first | (simp [entryFrame, mkF, argsToLocals, Value.category]; done) | rfl
theorem pd9 : parseMethodDescriptor "([II)V" = some ⟨[(.array .int), .int], none⟩ := by decide +kernel
theorem pn9 : plainFor (⟨"java/util/Arrays", "fill", "([II)V"⟩ : MethodName) = true := plainFor_of_name (by first | (simp [plainName, overriddenIn]; done) | decide +kernel)
theorem rm9 (l : Launch) (Z : State) (a0 : Array Value) (hw : ∀ d ∈ tables_1, d.before a0 Z = true) (n0 : Nat) (h0 : Heap) (Z0 : n0 ≤ h0.size) {o0 : Nat} {v_o0 : List Int32}  (g_o0 : n0 ≤ o0) (V_o0 : own_AI Z h0 o0 .int v_o0) (x1 : Int32)  (rr : (List Int32)) (hf : f9_0 v_o0 x1 = some rr) :
    own_Met l Z (⟨"java/util/Arrays", "fill", "([II)V"⟩ : MethodName) jdk_65_method_103_code 4 none [] rmR9 #[(.ref o0), (.int x1)] h0 (fun v h L => Fr n0 L ∧ Keep h0 h [o0] ∧ E9 Z h0 o0 rr v h) := by
  refine own_body pn9 ?_
  intro p e s m below meth c s₁ C X e0
  exact own_cast (ef9 m o0 x1) (b9_0 hw C Z0 rr (fun v h L a b c => ⟨a, b, c⟩) X e0 (Fr.nil n0) (Keep.refl h0 [o0]) g_o0 V_o0 x1 hf)
theorem d8_0 : decode prog_37_method_1_code 0 = .ok (.aload_n 0, 1) := by decide +kernel
theorem d8_1 : decode prog_37_method_1_code 1 = .ok (.invokespecial 1, 3) := by decide +kernel
theorem d8_4 : decode prog_37_method_1_code 4 = .ok (.aload_n 0, 1) := by decide +kernel
theorem d8_5 : decode prog_37_method_1_code 5 = .ok (.iload_n 2, 1) := by decide +kernel
theorem d8_6 : decode prog_37_method_1_code 6 = .ok (.iconst 1, 1) := by decide +kernel
theorem d8_7 : decode prog_37_method_1_code 7 = .ok (.iadd, 1) := by decide +kernel
theorem d8_8 : decode prog_37_method_1_code 8 = .ok (.newarray .int, 2) := by decide +kernel
theorem d8_10 : decode prog_37_method_1_code 10 = .ok (.putfield 7, 3) := by decide +kernel
theorem d8_13 : decode prog_37_method_1_code 13 = .ok (.aload_n 0, 1) := by decide +kernel
theorem d8_14 : decode prog_37_method_1_code 14 = .ok (.iload_n 1, 1) := by decide +kernel
theorem d8_15 : decode prog_37_method_1_code 15 = .ok (.newarray .int, 2) := by decide +kernel
theorem d8_17 : decode prog_37_method_1_code 17 = .ok (.putfield 13, 3) := by decide +kernel
theorem d8_20 : decode prog_37_method_1_code 20 = .ok (.aload_n 0, 1) := by decide +kernel
theorem d8_21 : decode prog_37_method_1_code 21 = .ok (.iload_n 1, 1) := by decide +kernel
theorem d8_22 : decode prog_37_method_1_code 22 = .ok (.newarray .int, 2) := by decide +kernel
theorem d8_24 : decode prog_37_method_1_code 24 = .ok (.putfield 16, 3) := by decide +kernel
theorem d8_27 : decode prog_37_method_1_code 27 = .ok (.aload_n 0, 1) := by decide +kernel
theorem d8_28 : decode prog_37_method_1_code 28 = .ok (.iload_n 1, 1) := by decide +kernel
theorem d8_29 : decode prog_37_method_1_code 29 = .ok (.newarray .int, 2) := by decide +kernel
theorem d8_31 : decode prog_37_method_1_code 31 = .ok (.putfield 19, 3) := by decide +kernel
theorem d8_34 : decode prog_37_method_1_code 34 = .ok (.aload_n 0, 1) := by decide +kernel
theorem d8_35 : decode prog_37_method_1_code 35 = .ok (.getfield 7, 3) := by decide +kernel
theorem d8_38 : decode prog_37_method_1_code 38 = .ok (.iconst (-1), 1) := by decide +kernel
theorem d8_39 : decode prog_37_method_1_code 39 = .ok (.invokestatic 22, 3) := by decide +kernel
theorem d8_42 : decode prog_37_method_1_code 42 = .ok (.aload_n 0, 1) := by decide +kernel
theorem d8_43 : decode prog_37_method_1_code 43 = .ok (.getfield 19, 3) := by decide +kernel
theorem d8_46 : decode prog_37_method_1_code 46 = .ok (.iconst (-1), 1) := by decide +kernel
theorem d8_47 : decode prog_37_method_1_code 47 = .ok (.invokestatic 22, 3) := by decide +kernel
theorem d8_50 : decode prog_37_method_1_code 50 = .ok (.return_, 1) := by decide +kernel
def rmR8 : Room := { frames := 1, cells := 4, slots := 22, locals := 15 }
def E8 (Z : State) (h0 : Heap) (o0 : Nat)  (rr : Unit) (v : Option Value) (h : Heap) : Prop := v = none ∧ Exa Z h o0 "com/example/gridfare/gridfare/engine/BucketQueue"
theorem ly0 {a0 : Array Value} {Z : State} (hw : ∀ d ∈ tables_1, d.before a0 Z = true) : Laid Z a0 "com/example/gridfare/gridfare/engine/BucketQueue" "com/example/gridfare/gridfare/engine/BucketQueue" "next" "[I" := (Or.inr (hw _ (List.mem_of_getElem? (i := 76) rfl)))
theorem ly1 {a0 : Array Value} {Z : State} (hw : ∀ d ∈ tables_1, d.before a0 Z = true) : Laid Z a0 "com/example/gridfare/gridfare/engine/BucketQueue" "com/example/gridfare/gridfare/engine/BucketQueue" "first" "[I" := (Or.inr (hw _ (List.mem_of_getElem? (i := 74) rfl)))
theorem pf0 : parseFieldDescriptor "[I" = some (.array .int) := by decide
theorem ly2 {a0 : Array Value} {Z : State} (hw : ∀ d ∈ tables_1, d.before a0 Z = true) : Laid Z a0 "com/example/gridfare/gridfare/engine/BucketQueue" "com/example/gridfare/gridfare/engine/BucketQueue" "previous" "[I" := (Or.inr (hw _ (List.mem_of_getElem? (i := 78) rfl)))
theorem ly3 {a0 : Array Value} {Z : State} (hw : ∀ d ∈ tables_1, d.before a0 Z = true) : Laid Z a0 "com/example/gridfare/gridfare/engine/BucketQueue" "com/example/gridfare/gridfare/engine/BucketQueue" "distance" "[I" := (Or.inr (hw _ (List.mem_of_getElem? (i := 80) rfl)))
def f8_0 (x1 : Int32) (x2 : Int32) : Option (Unit) := (if (x2 + (1 : Int32)) < 0 ∨ 13 < (x2 + (1 : Int32)).toInt then none else (if x1 < 0 ∨ 3 < x1.toInt then none else (if x1 < 0 ∨ 3 < x1.toInt then none else (if x1 < 0 ∨ 3 < x1.toInt then none else ((f9_0 (List.replicate ((x2 + (1 : Int32))).toNatClampNeg 0) (-1 : Int32)).bind fun rr11 => ((f9_0 (List.replicate (x1).toNatClampNeg 0) (-1 : Int32)).bind fun rr13 => (some ())))))))
set_option maxRecDepth 65536 in
set_option maxHeartbeats 40000000 in
theorem b8_0 {p : Program} {l : Launch} {e : Env} {s : State} {m : MethodId} {args : Array Value} {below : List Frame} {meth : Method} {c : Code} {Z : State} {a0 : Array Value} {h0 : Heap} {n0 : Nat} {P : Option Value → Heap → List Loc → Prop} (hw : ∀ d ∈ tables_1, d.before a0 Z = true) (C : own_Ctx p s m meth c Z (⟨"com/example/gridfare/gridfare/engine/BucketQueue", "<init>", "(II)V"⟩ : MethodName) prog_37_method_1_code 3 none) (Z0 : n0 ≤ h0.size) {o0 : Nat}  (rr : Unit) (hP : ∀ v h L, Fr n0 L → Keep h0 h [o0] → E8 Z h0 o0 rr v h → P v h L)
    {T : State} {locs : List Loc} {h : Heap} (X : Stand p l e rmR8 s m args below meth c T locs 0 0) (e0 : T.heap = h) (N : Fr n0 locs) (K : Keep h0 h [o0]) (g_o0 : n0 ≤ o0) (E_o0 : Exa Z h o0 "com/example/gridfare/gridfare/engine/BucketQueue") (Fo0_0 : Fld Z h o0 "com/example/gridfare/gridfare/engine/BucketQueue" "first" "[I" .null) (Fo0_1 : Fld Z h o0 "com/example/gridfare/gridfare/engine/BucketQueue" "next" "[I" .null) (Fo0_2 : Fld Z h o0 "com/example/gridfare/gridfare/engine/BucketQueue" "previous" "[I" .null) (Fo0_3 : Fld Z h o0 "com/example/gridfare/gridfare/engine/BucketQueue" "distance" "[I" .null) (x1 : Int32) (x2 : Int32) (hv : f8_0 x1 x2 = some rr) :
    own_WP p e below (own_Q s P rmR8.cells rmR8.slots) T (mkF m 0 #[.val (.ref o0), .val (.int x1), .val (.int x2)] []) := by
  obtain ⟨hx, hZ, hby, hml, hown, hnm, hret, hlk⟩ := id C
  replace hown : s.vm.findClass "com/example/gridfare/gridfare/engine/BucketQueue" = some m.cls := hown
  unfold f8_0 at hv
  show own_WP p e below _ T (mkF m 0 #[.val (.ref o0), .val (.int x1), .val (.int x2)] [])
  refine own_go (fun _ => XS.aloadN X.here hx rfl (hb hby d8_0) rfl rfl) ?_
  show own_WP p e below _ T (mkF m 1 #[.val (.ref o0), .val (.int x1), .val (.int x2)] [(.ref o0)])
  obtain ⟨T1, X1, e1, st1⟩ := initO X hx hZ hown (hw _ (List.mem_of_getElem? (i := 72) rfl)) (hw _ (List.mem_of_getElem? (i := 18) rfl)) (hw _ (List.mem_of_getElem? (i := 19) rfl)) e0 (g := (mkF m 1 #[.val (.ref o0), .val (.int x1), .val (.int x2)] [(.ref o0)])) rfl (by rw [hml]; rfl) rfl (hb hby d8_1) (by decide) (W := 0) (by show 2 * 0 + _ ≤ _; exact Nat.le_of_eq rfl) (by decide)
  refine own_go st1 ?_
  show own_WP p e below _ T1 (mkF m 4 _ [])
  refine own_go (fun _ => XS.aloadN X1.here hx rfl (hb hby d8_4) rfl rfl) ?_
  show own_WP p e below _ T1 (mkF m 5 _ [(.ref o0)])
  refine own_go (fun _ => XS.iloadN X1.here hx rfl (hb hby d8_5) rfl) ?_
  show own_WP p e below _ T1 (mkF m 6 _ [(.int x2), (.ref o0)])
  refine own_go (fun _ => XS.iconst X1.here hx rfl (hb hby d8_6)) ?_
  show own_WP p e below _ T1 (mkF m 7 _ [(.int (1 : Int32)), (.int x2), (.ref o0)])
  refine own_go (fun _ => XS.iadd X1.here hx rfl (hb hby d8_7) rfl) ?_
  show own_WP p e below _ T1 (mkF m 8 #[.val (.ref o0), .val (.int x1), .val (.int x2)] [(.int (x2 + (1 : Int32))), (.ref o0)])
  by_cases h8 : (x2 + (1 : Int32)) < 0 ∨ 13 < (x2 + (1 : Int32)).toInt
  · cases ((if_pos h8).symm.trans hv)
  replace hv := (if_neg h8).symm.trans hv
  obtain ⟨T2, h2, b8, X2, e2, E2, hb_b8, V_b8, st2⟩ := own_newI X1 C e1 (aty := .int) (ty := .int) rfl rfl rfl (hw _ (List.mem_of_getElem? (i := 2) rfl)) (n := (x2 + (1 : Int32))) (fun q => h8 (Or.inl q)) (cap := 13) (own_cap (k := 13) rfl (fun q => h8 (Or.inr q))) (by decide) (by decide) (by decide) (pc := 8) (Ls := #[.val (.ref o0), .val (.int x1), .val (.int x2)]) (rest := [(.ref o0)]) (hb hby d8_8)
  refine own_go st2 ?_
  have o_o0_b8 : o0 < b8 := by have q : o0 < h.size := E_o0.lt; omega
  have z_b8 : h0.size ≤ b8 := by have q := K.1; omega
  replace E_o0 := E_o0.ext E2
  replace Fo0_0 := Fo0_0.ext E2
  replace Fo0_1 := Fo0_1.ext E2
  replace Fo0_2 := Fo0_2.ext E2
  replace Fo0_3 := Fo0_3.ext E2
  replace K := K.ext E2
  clear st2 E2 hb_b8 X1 e1
  show own_WP p e below _ T2 (mkF m 10 #[.val (.ref o0), .val (.int x1), .val (.int x2)] [(.ref b8), (.ref o0)])
  obtain ⟨T3, h3, X3, e3, W3, st3⟩ := putF X2 hx hZ hown (host := "") (Or.inl (hw _ (List.mem_of_getElem? (i := 73) rfl))) Via.refl e2 Fo0_0 E_o0 (Or.inr ⟨(hw _ (List.mem_of_getElem? (i := 74) rfl)), rfl, hnm⟩) (hw _ (List.mem_of_getElem? (i := 67) rfl)) (ty := (.array .int)) (by decide) rfl rfl (g := (mkF m 10 #[.val (.ref o0), .val (.int x1), .val (.int x2)] [(.ref b8), (.ref o0)])) rfl rfl (hb hby d8_10)
  refine own_go st3 ?_
  replace E_o0 := E_o0.wr W3
  replace Fo0_0 := Fo0_0.same W3
  replace Fo0_1 := Fo0_1.other W3 (Or.inr (slot_ne (ly0 hw) (ly1 hw) (by decide) pf0 pf0))
  replace Fo0_2 := Fo0_2.other W3 (Or.inr (slot_ne (ly2 hw) (ly1 hw) (by decide) pf0 pf0))
  replace Fo0_3 := Fo0_3.other W3 (Or.inr (slot_ne (ly3 hw) (ly1 hw) (by decide) pf0 pf0))
  replace V_b8 := V_b8.other W3 (own_ne (by omega))
  replace K := K.wr W3 (Or.inl (List.mem_of_getElem? (i := 0) rfl))
  replace N := Fr.snoc X3 N (by omega)
  clear st3 W3 X2 e2
  show own_WP p e below _ T3 (mkF m 13 _ [])
  refine own_go (fun _ => XS.aloadN X3.here hx rfl (hb hby d8_13) rfl rfl) ?_
  show own_WP p e below _ T3 (mkF m 14 _ [(.ref o0)])
  refine own_go (fun _ => XS.iloadN X3.here hx rfl (hb hby d8_14) rfl) ?_
  show own_WP p e below _ T3 (mkF m 15 #[.val (.ref o0), .val (.int x1), .val (.int x2)] [(.int x1), (.ref o0)])
  by_cases h15 : x1 < 0 ∨ 3 < x1.toInt
  · cases ((if_pos h15).symm.trans hv)
  replace hv := (if_neg h15).symm.trans hv
  obtain ⟨T4, h4, b15, X4, e4, E4, hb_b15, V_b15, st4⟩ := own_newI X3 C e3 (aty := .int) (ty := .int) rfl rfl rfl (hw _ (List.mem_of_getElem? (i := 2) rfl)) (n := x1) (fun q => h15 (Or.inl q)) (cap := 3) (own_cap (k := 3) rfl (fun q => h15 (Or.inr q))) (by decide) (by decide) (by decide) (pc := 15) (Ls := #[.val (.ref o0), .val (.int x1), .val (.int x2)]) (rest := [(.ref o0)]) (hb hby d8_15)
  refine own_go st4 ?_
  have o_b8_b15 : b8 < b15 := by have q : b8 < h3.size := V_b8.lt; omega
  replace E_o0 := E_o0.ext E4
  replace Fo0_0 := Fo0_0.ext E4
  replace Fo0_1 := Fo0_1.ext E4
  replace Fo0_2 := Fo0_2.ext E4
  replace Fo0_3 := Fo0_3.ext E4
  replace V_b8 := V_b8.ext E4
  replace K := K.ext E4
  clear st4 E4 hb_b15 X3 e3
  show own_WP p e below _ T4 (mkF m 17 #[.val (.ref o0), .val (.int x1), .val (.int x2)] [(.ref b15), (.ref o0)])
  obtain ⟨T5, h5, X5, e5, W5, st5⟩ := putF X4 hx hZ hown (host := "") (Or.inl (hw _ (List.mem_of_getElem? (i := 75) rfl))) Via.refl e4 Fo0_1 E_o0 (Or.inr ⟨(hw _ (List.mem_of_getElem? (i := 76) rfl)), rfl, hnm⟩) (hw _ (List.mem_of_getElem? (i := 67) rfl)) (ty := (.array .int)) (by decide) rfl rfl (g := (mkF m 17 #[.val (.ref o0), .val (.int x1), .val (.int x2)] [(.ref b15), (.ref o0)])) rfl rfl (hb hby d8_17)
  refine own_go st5 ?_
  replace E_o0 := E_o0.wr W5
  replace Fo0_0 := Fo0_0.other W5 (Or.inr (slot_ne (ly1 hw) (ly0 hw) (by decide) pf0 pf0))
  replace Fo0_1 := Fo0_1.same W5
  replace Fo0_2 := Fo0_2.other W5 (Or.inr (slot_ne (ly2 hw) (ly0 hw) (by decide) pf0 pf0))
  replace Fo0_3 := Fo0_3.other W5 (Or.inr (slot_ne (ly3 hw) (ly0 hw) (by decide) pf0 pf0))
  replace V_b8 := V_b8.other W5 (own_ne (by omega))
  replace V_b15 := V_b15.other W5 (own_ne (by omega))
  replace K := K.wr W5 (Or.inl (List.mem_of_getElem? (i := 0) rfl))
  replace N := Fr.snoc X5 N (by omega)
  clear st5 W5 X4 e4
  show own_WP p e below _ T5 (mkF m 20 _ [])
  refine own_go (fun _ => XS.aloadN X5.here hx rfl (hb hby d8_20) rfl rfl) ?_
  show own_WP p e below _ T5 (mkF m 21 _ [(.ref o0)])
  refine own_go (fun _ => XS.iloadN X5.here hx rfl (hb hby d8_21) rfl) ?_
  show own_WP p e below _ T5 (mkF m 22 #[.val (.ref o0), .val (.int x1), .val (.int x2)] [(.int x1), (.ref o0)])
  by_cases h22 : x1 < 0 ∨ 3 < x1.toInt
  · cases ((if_pos h22).symm.trans hv)
  replace hv := (if_neg h22).symm.trans hv
  obtain ⟨T6, h6, b22, X6, e6, E6, hb_b22, V_b22, st6⟩ := own_newI X5 C e5 (aty := .int) (ty := .int) rfl rfl rfl (hw _ (List.mem_of_getElem? (i := 2) rfl)) (n := x1) (fun q => h22 (Or.inl q)) (cap := 3) (own_cap (k := 3) rfl (fun q => h22 (Or.inr q))) (by decide) (by decide) (by decide) (pc := 22) (Ls := #[.val (.ref o0), .val (.int x1), .val (.int x2)]) (rest := [(.ref o0)]) (hb hby d8_22)
  refine own_go st6 ?_
  have o_b15_b22 : b15 < b22 := by have q : b15 < h5.size := V_b15.lt; omega
  replace E_o0 := E_o0.ext E6
  replace Fo0_0 := Fo0_0.ext E6
  replace Fo0_1 := Fo0_1.ext E6
  replace Fo0_2 := Fo0_2.ext E6
  replace Fo0_3 := Fo0_3.ext E6
  replace V_b8 := V_b8.ext E6
  replace V_b15 := V_b15.ext E6
  replace K := K.ext E6
  clear st6 E6 hb_b22 X5 e5
  show own_WP p e below _ T6 (mkF m 24 #[.val (.ref o0), .val (.int x1), .val (.int x2)] [(.ref b22), (.ref o0)])
  obtain ⟨T7, h7, X7, e7, W7, st7⟩ := putF X6 hx hZ hown (host := "") (Or.inl (hw _ (List.mem_of_getElem? (i := 77) rfl))) Via.refl e6 Fo0_2 E_o0 (Or.inr ⟨(hw _ (List.mem_of_getElem? (i := 78) rfl)), rfl, hnm⟩) (hw _ (List.mem_of_getElem? (i := 67) rfl)) (ty := (.array .int)) (by decide) rfl rfl (g := (mkF m 24 #[.val (.ref o0), .val (.int x1), .val (.int x2)] [(.ref b22), (.ref o0)])) rfl rfl (hb hby d8_24)
  refine own_go st7 ?_
  replace E_o0 := E_o0.wr W7
  replace Fo0_0 := Fo0_0.other W7 (Or.inr (slot_ne (ly1 hw) (ly2 hw) (by decide) pf0 pf0))
  replace Fo0_1 := Fo0_1.other W7 (Or.inr (slot_ne (ly0 hw) (ly2 hw) (by decide) pf0 pf0))
  replace Fo0_2 := Fo0_2.same W7
  replace Fo0_3 := Fo0_3.other W7 (Or.inr (slot_ne (ly3 hw) (ly2 hw) (by decide) pf0 pf0))
  replace V_b8 := V_b8.other W7 (own_ne (by omega))
  replace V_b15 := V_b15.other W7 (own_ne (by omega))
  replace V_b22 := V_b22.other W7 (own_ne (by omega))
  replace K := K.wr W7 (Or.inl (List.mem_of_getElem? (i := 0) rfl))
  replace N := Fr.snoc X7 N (by omega)
  clear st7 W7 X6 e6
  show own_WP p e below _ T7 (mkF m 27 _ [])
  refine own_go (fun _ => XS.aloadN X7.here hx rfl (hb hby d8_27) rfl rfl) ?_
  show own_WP p e below _ T7 (mkF m 28 _ [(.ref o0)])
  refine own_go (fun _ => XS.iloadN X7.here hx rfl (hb hby d8_28) rfl) ?_
  show own_WP p e below _ T7 (mkF m 29 #[.val (.ref o0), .val (.int x1), .val (.int x2)] [(.int x1), (.ref o0)])
  by_cases h29 : x1 < 0 ∨ 3 < x1.toInt
  · cases ((if_pos h29).symm.trans hv)
  replace hv := (if_neg h29).symm.trans hv
  obtain ⟨T8, h8, b29, X8, e8, E8, hb_b29, V_b29, st8⟩ := own_newI X7 C e7 (aty := .int) (ty := .int) rfl rfl rfl (hw _ (List.mem_of_getElem? (i := 2) rfl)) (n := x1) (fun q => h29 (Or.inl q)) (cap := 3) (own_cap (k := 3) rfl (fun q => h29 (Or.inr q))) (by decide) (by decide) (by decide) (pc := 29) (Ls := #[.val (.ref o0), .val (.int x1), .val (.int x2)]) (rest := [(.ref o0)]) (hb hby d8_29)
  refine own_go st8 ?_
  have o_b22_b29 : b22 < b29 := by have q : b22 < h7.size := V_b22.lt; omega
  replace E_o0 := E_o0.ext E8
  replace Fo0_0 := Fo0_0.ext E8
  replace Fo0_1 := Fo0_1.ext E8
  replace Fo0_2 := Fo0_2.ext E8
  replace Fo0_3 := Fo0_3.ext E8
  replace V_b8 := V_b8.ext E8
  replace V_b15 := V_b15.ext E8
  replace V_b22 := V_b22.ext E8
  replace K := K.ext E8
  clear st8 E8 hb_b29 X7 e7
  show own_WP p e below _ T8 (mkF m 31 #[.val (.ref o0), .val (.int x1), .val (.int x2)] [(.ref b29), (.ref o0)])
  obtain ⟨T9, h9, X9, e9, W9, st9⟩ := putF X8 hx hZ hown (host := "") (Or.inl (hw _ (List.mem_of_getElem? (i := 79) rfl))) Via.refl e8 Fo0_3 E_o0 (Or.inr ⟨(hw _ (List.mem_of_getElem? (i := 80) rfl)), rfl, hnm⟩) (hw _ (List.mem_of_getElem? (i := 67) rfl)) (ty := (.array .int)) (by decide) rfl rfl (g := (mkF m 31 #[.val (.ref o0), .val (.int x1), .val (.int x2)] [(.ref b29), (.ref o0)])) rfl rfl (hb hby d8_31)
  refine own_go st9 ?_
  replace E_o0 := E_o0.wr W9
  replace Fo0_0 := Fo0_0.other W9 (Or.inr (slot_ne (ly1 hw) (ly3 hw) (by decide) pf0 pf0))
  replace Fo0_1 := Fo0_1.other W9 (Or.inr (slot_ne (ly0 hw) (ly3 hw) (by decide) pf0 pf0))
  replace Fo0_2 := Fo0_2.other W9 (Or.inr (slot_ne (ly2 hw) (ly3 hw) (by decide) pf0 pf0))
  replace Fo0_3 := Fo0_3.same W9
  replace V_b8 := V_b8.other W9 (own_ne (by omega))
  replace V_b15 := V_b15.other W9 (own_ne (by omega))
  replace V_b22 := V_b22.other W9 (own_ne (by omega))
  replace V_b29 := V_b29.other W9 (own_ne (by omega))
  replace K := K.wr W9 (Or.inl (List.mem_of_getElem? (i := 0) rfl))
  replace N := Fr.snoc X9 N (by omega)
  clear st9 W9 X8 e8
  show own_WP p e below _ T9 (mkF m 34 _ [])
  refine own_go (fun _ => XS.aloadN X9.here hx rfl (hb hby d8_34) rfl rfl) ?_
  show own_WP p e below _ T9 (mkF m 35 _ [(.ref o0)])
  obtain ⟨T10, X10, e10, st10⟩ := getF X9 hx hZ hown (host := "") (Or.inl (hw _ (List.mem_of_getElem? (i := 73) rfl))) Via.refl e9 Fo0_0 (g := (mkF m 35 #[.val (.ref o0), .val (.int x1), .val (.int x2)] [(.ref o0)])) rfl rfl (hb hby d8_35)
  refine own_go st10 ?_
  clear st10 X9 e9
  show own_WP p e below _ T10 (mkF m 38 _ [(.ref b8)])
  refine own_go (fun _ => XS.iconst X10.here hx rfl (hb hby d8_38)) ?_
  show own_WP p e below _ T10 (mkF m 39 #[.val (.ref o0), .val (.int x1), .val (.int x2)] [(.int (-1 : Int32)), (.ref b8)])
  obtain ⟨rr11, hf11, hv⟩ := own_bind hv
  obtain ⟨T11, v11, L11, X11, ⟨N11, K11, Q11⟩, st11⟩ := own_callS X10 C (argsL := [(.ref b8), (.int (-1 : Int32))]) (rm9 l Z a0 hw n0 h9 (by have q := K.1; omega) (by omega) V_b8 (-1 : Int32) rr11 hf11) (hw _ (List.mem_of_getElem? (i := 81) rfl)) (hw _ (List.mem_of_getElem? (i := 82) rfl)) (hw _ (List.mem_of_getElem? (i := 42) rfl)) (hw _ (List.mem_of_getElem? (i := 83) rfl)) (by decide) e10 (W := 0) (pc := 39) (Ls := #[.val (.ref o0), .val (.int x1), .val (.int x2)]) rfl (lenOf pd9 rfl) (rest := []) (stk := [(.int (-1 : Int32)), (.ref b8)]) rfl (Nat.le_of_ble_eq_true rfl) (hb hby d8_39) (by decide) (by decide) (by decide) (by decide)
  replace N := Fr.app N N11
  replace E_o0 := E_o0.keep K11
  have nq : o0 ∉ ([b8] : List Addr) := (ninS (own_ne (by omega)) nin0)
  replace Fo0_0 := Fo0_0.keep K11 nq
  replace Fo0_1 := Fo0_1.keep K11 nq
  replace Fo0_2 := Fo0_2.keep K11 nq
  replace Fo0_3 := Fo0_3.keep K11 nq
  clear nq
  replace V_b15 := V_b15.keep K11 (ninS (own_ne (by omega)) nin0)
  replace V_b22 := V_b22.keep K11 (ninS (own_ne (by omega)) nin0)
  replace V_b29 := V_b29.keep K11 (ninS (own_ne (by omega)) nin0)
  clear V_b8
  obtain ⟨rfl, V_b8⟩ := Q11
  replace K := K.trans K11 (allS (Or.inr (by omega)) all0)
  refine own_go st11 ?_
  clear st11 N11 K11 hf11 X10 e10
  show own_WP p e below _ T11 (mkF m 42 _ [])
  refine own_go (fun _ => XS.aloadN X11.here hx rfl (hb hby d8_42) rfl rfl) ?_
  show own_WP p e below _ T11 (mkF m 43 _ [(.ref o0)])
  obtain ⟨T12, X12, e12, st12⟩ := getF X11 hx hZ hown (host := "") (Or.inl (hw _ (List.mem_of_getElem? (i := 79) rfl))) Via.refl (rfl : T11.heap = T11.heap) Fo0_3 (g := (mkF m 43 #[.val (.ref o0), .val (.int x1), .val (.int x2)] [(.ref o0)])) rfl rfl (hb hby d8_43)
  refine own_go st12 ?_
  clear st12 X11
  show own_WP p e below _ T12 (mkF m 46 _ [(.ref b29)])
  refine own_go (fun _ => XS.iconst X12.here hx rfl (hb hby d8_46)) ?_
  show own_WP p e below _ T12 (mkF m 47 #[.val (.ref o0), .val (.int x1), .val (.int x2)] [(.int (-1 : Int32)), (.ref b29)])
  obtain ⟨rr13, hf13, hv⟩ := own_bind hv
  obtain ⟨T13, v13, L13, X13, ⟨N13, K13, Q13⟩, st13⟩ := own_callS X12 C (argsL := [(.ref b29), (.int (-1 : Int32))]) (rm9 l Z a0 hw n0 T11.heap (by have q := K.1; omega) (by omega) V_b29 (-1 : Int32) rr13 hf13) (hw _ (List.mem_of_getElem? (i := 81) rfl)) (hw _ (List.mem_of_getElem? (i := 82) rfl)) (hw _ (List.mem_of_getElem? (i := 42) rfl)) (hw _ (List.mem_of_getElem? (i := 83) rfl)) (by decide) e12 (W := 0) (pc := 47) (Ls := #[.val (.ref o0), .val (.int x1), .val (.int x2)]) rfl (lenOf pd9 rfl) (rest := []) (stk := [(.int (-1 : Int32)), (.ref b29)]) rfl (Nat.le_of_ble_eq_true rfl) (hb hby d8_47) (by decide) (by decide) (by decide) (by decide)
  replace N := Fr.app N N13
  replace E_o0 := E_o0.keep K13
  have nq : o0 ∉ ([b29] : List Addr) := (ninS (own_ne (by omega)) nin0)
  replace Fo0_0 := Fo0_0.keep K13 nq
  replace Fo0_1 := Fo0_1.keep K13 nq
  replace Fo0_2 := Fo0_2.keep K13 nq
  replace Fo0_3 := Fo0_3.keep K13 nq
  clear nq
  replace V_b8 := V_b8.keep K13 (ninS (own_ne (by omega)) nin0)
  replace V_b15 := V_b15.keep K13 (ninS (own_ne (by omega)) nin0)
  replace V_b22 := V_b22.keep K13 (ninS (own_ne (by omega)) nin0)
  clear V_b29
  obtain ⟨rfl, V_b29⟩ := Q13
  replace K := K.trans K13 (allS (Or.inr (by omega)) all0)
  refine own_go st13 ?_
  clear st13 N13 K13 hf13 X12 e12
  show own_WP p e below _ T13 (mkF m 50 #[.val (.ref o0), .val (.int x1), .val (.int x2)] [])
  obtain rfl := Option.some.inj hv
  exact own_retV X13 C (hb hby d8_50) (hP _ _ _ N K ⟨rfl, E_o0⟩) (by decide) (by decide)
theorem ef8 (m : MethodId) (o0 : Nat) (x1 : Int32) (x2 : Int32) : entryFrame m #[(.ref o0), (.int x1), (.int x2)] 3 = (mkF m 0 #[.val (.ref o0), .val (.int x1), .val (.int x2)] []) := by first | (simp [entryFrame, mkF, argsToLocals, Value.category]; done) | rfl
theorem pd8 : parseMethodDescriptor "(II)V" = some ⟨[.int, .int], none⟩ := by decide +kernel
theorem pn8 : plainFor (⟨"com/example/gridfare/gridfare/engine/BucketQueue", "<init>", "(II)V"⟩ : MethodName) = true := plainFor_of_name (by first | (simp [plainName, overriddenIn]; done) | decide +kernel)
theorem rm8 (l : Launch) (Z : State) (a0 : Array Value) (hw : ∀ d ∈ tables_1, d.before a0 Z = true) (n0 : Nat) (h0 : Heap) (Z0 : n0 ≤ h0.size) {o0 : Nat}   (g_o0 : n0 ≤ o0) (E_o0 : Exa Z h0 o0 "com/example/gridfare/gridfare/engine/BucketQueue") (Fo0_0 : Fld Z h0 o0 "com/example/gridfare/gridfare/engine/BucketQueue" "first" "[I" .null) (Fo0_1 : Fld Z h0 o0 "com/example/gridfare/gridfare/engine/BucketQueue" "next" "[I" .null) (Fo0_2 : Fld Z h0 o0 "com/example/gridfare/gridfare/engine/BucketQueue" "previous" "[I" .null) (Fo0_3 : Fld Z h0 o0 "com/example/gridfare/gridfare/engine/BucketQueue" "distance" "[I" .null) (x1 : Int32) (x2 : Int32)  (rr : Unit) (hf : f8_0 x1 x2 = some rr) :
    own_Met l Z (⟨"com/example/gridfare/gridfare/engine/BucketQueue", "<init>", "(II)V"⟩ : MethodName) prog_37_method_1_code 3 none [] rmR8 #[(.ref o0), (.int x1), (.int x2)] h0 (fun v h L => Fr n0 L ∧ Keep h0 h [o0] ∧ E8 Z h0 o0 rr v h) := by
  refine own_body pn8 ?_
  intro p e s m below meth c s₁ C X e0
  exact own_cast (ef8 m o0 x1 x2) (b8_0 hw C Z0 rr (fun v h L a b c => ⟨a, b, c⟩) X e0 (Fr.nil n0) (Keep.refl h0 [o0]) g_o0 E_o0 Fo0_0 Fo0_1 Fo0_2 Fo0_3 x1 x2 hf)
theorem d11_0 : decode prog_39_method_2_code 0 = .ok (.iconst 0, 1) := by decide +kernel
theorem d11_1 : decode prog_39_method_2_code 1 = .ok (.istore_n 1, 1) := by decide +kernel
theorem d11_2 : decode prog_39_method_2_code 2 = .ok (.iload_n 1, 1) := by decide +kernel
theorem d11_3 : decode prog_39_method_2_code 3 = .ok (.aload_n 0, 1) := by decide +kernel
theorem d11_4 : decode prog_39_method_2_code 4 = .ok (.getfield 7, 3) := by decide +kernel
theorem d11_7 : decode prog_39_method_2_code 7 = .ok (.if_icmp .ge 34, 3) := by decide +kernel
theorem d11_10 : decode prog_39_method_2_code 10 = .ok (.aload_n 0, 1) := by decide +kernel
theorem d11_11 : decode prog_39_method_2_code 11 = .ok (.getfield 13, 3) := by decide +kernel
theorem d11_14 : decode prog_39_method_2_code 14 = .ok (.iload_n 1, 1) := by decide +kernel
theorem d11_15 : decode prog_39_method_2_code 15 = .ok (.iload_n 1, 1) := by decide +kernel
theorem d11_16 : decode prog_39_method_2_code 16 = .ok (.iconst 1, 1) := by decide +kernel
theorem d11_17 : decode prog_39_method_2_code 17 = .ok (.iadd, 1) := by decide +kernel
theorem d11_18 : decode prog_39_method_2_code 18 = .ok (.iastore, 1) := by decide +kernel
theorem d11_19 : decode prog_39_method_2_code 19 = .ok (.aload_n 0, 1) := by decide +kernel
theorem d11_20 : decode prog_39_method_2_code 20 = .ok (.getfield 17, 3) := by decide +kernel
theorem d11_23 : decode prog_39_method_2_code 23 = .ok (.iload_n 1, 1) := by decide +kernel
theorem d11_24 : decode prog_39_method_2_code 24 = .ok (.iconst 1, 1) := by decide +kernel
theorem d11_25 : decode prog_39_method_2_code 25 = .ok (.iadd, 1) := by decide +kernel
theorem d11_26 : decode prog_39_method_2_code 26 = .ok (.iload_n 1, 1) := by decide +kernel
theorem d11_27 : decode prog_39_method_2_code 27 = .ok (.iastore, 1) := by decide +kernel
theorem d11_28 : decode prog_39_method_2_code 28 = .ok (.aload_n 0, 1) := by decide +kernel
theorem d11_29 : decode prog_39_method_2_code 29 = .ok (.getfield 20, 3) := by decide +kernel
theorem d11_32 : decode prog_39_method_2_code 32 = .ok (.iload_n 1, 1) := by decide +kernel
theorem d11_33 : decode prog_39_method_2_code 33 = .ok (.iconst 1, 1) := by decide +kernel
theorem d11_34 : decode prog_39_method_2_code 34 = .ok (.iastore, 1) := by decide +kernel
theorem d11_35 : decode prog_39_method_2_code 35 = .ok (.iinc 1 1, 3) := by decide +kernel
theorem d11_38 : decode prog_39_method_2_code 38 = .ok (.goto (-36), 3) := by decide +kernel
theorem d11_41 : decode prog_39_method_2_code 41 = .ok (.aload_n 0, 1) := by decide +kernel
theorem d11_42 : decode prog_39_method_2_code 42 = .ok (.getfield 13, 3) := by decide +kernel
theorem d11_45 : decode prog_39_method_2_code 45 = .ok (.aload_n 0, 1) := by decide +kernel
theorem d11_46 : decode prog_39_method_2_code 46 = .ok (.getfield 7, 3) := by decide +kernel
theorem d11_49 : decode prog_39_method_2_code 49 = .ok (.iconst 0, 1) := by decide +kernel
theorem d11_50 : decode prog_39_method_2_code 50 = .ok (.iastore, 1) := by decide +kernel
theorem d11_51 : decode prog_39_method_2_code 51 = .ok (.aload_n 0, 1) := by decide +kernel
theorem d11_52 : decode prog_39_method_2_code 52 = .ok (.getfield 17, 3) := by decide +kernel
theorem d11_55 : decode prog_39_method_2_code 55 = .ok (.iconst 0, 1) := by decide +kernel
theorem d11_56 : decode prog_39_method_2_code 56 = .ok (.aload_n 0, 1) := by decide +kernel
theorem d11_57 : decode prog_39_method_2_code 57 = .ok (.getfield 7, 3) := by decide +kernel
theorem d11_60 : decode prog_39_method_2_code 60 = .ok (.iastore, 1) := by decide +kernel
theorem d11_61 : decode prog_39_method_2_code 61 = .ok (.aload_n 0, 1) := by decide +kernel
theorem d11_62 : decode prog_39_method_2_code 62 = .ok (.getfield 20, 3) := by decide +kernel
theorem d11_65 : decode prog_39_method_2_code 65 = .ok (.aload_n 0, 1) := by decide +kernel
theorem d11_66 : decode prog_39_method_2_code 66 = .ok (.getfield 7, 3) := by decide +kernel
theorem d11_69 : decode prog_39_method_2_code 69 = .ok (.iconst 0, 1) := by decide +kernel
theorem d11_70 : decode prog_39_method_2_code 70 = .ok (.iastore, 1) := by decide +kernel
theorem d11_71 : decode prog_39_method_2_code 71 = .ok (.return_, 1) := by decide +kernel
def rmR11 : Room := { frames := 0, cells := 0, slots := 0, locals := 0 }
def E11 (Z : State) (h0 : Heap) (o0 : Nat) (pf : Nat) (pp : Nat) (pd : Nat) (n : Int32) (rr : (List Int32) × (List Int32) × (List Int32)) (v : Option Value) (h : Heap) : Prop := v = none ∧ own_AI Z h pf .int (rr.1) ∧ own_AI Z h pp .int (rr.2.1) ∧ own_AI Z h pd .int (rr.2.2)
def f11_2 : Nat → Int32 → (List Int32) → (List Int32) → (List Int32) → Int32 → Option ((List Int32) × (List Int32) × (List Int32))
  | 0 => fun _ _ _ _ _ => none
  | k + 1 => fun n v_pf v_pp v_pd x1 => (if x1 < n then ((own_set v_pf x1 (x1 + (1 : Int32))).bind fun u3 => ((own_set v_pp (x1 + (1 : Int32)) x1).bind fun u5 => ((own_set v_pd x1 (1 : Int32)).bind fun u7 => (f11_2 k n u3 u5 u7 (x1 + (1 : Int32)))))) else ((own_set v_pf n (0 : Int32)).bind fun u10 => ((own_set v_pp (0 : Int32) n).bind fun u13 => ((own_set v_pd n (0 : Int32)).bind fun u16 => (some (u10, u13, u16))))))
set_option maxRecDepth 65536 in
set_option maxHeartbeats 40000000 in
theorem b11_2 {p : Program} {l : Launch} {e : Env} {s : State} {m : MethodId} {args : Array Value} {below : List Frame} {meth : Method} {c : Code} {Z : State} {a0 : Array Value} {h0 : Heap} {n0 : Nat} {P : Option Value → Heap → List Loc → Prop} (hw : ∀ d ∈ tables_1, d.before a0 Z = true) (C : own_Ctx p s m meth c Z (⟨"com/example/gridfare/gridfare/engine/LoweringTree", "plant", "()V"⟩ : MethodName) prog_39_method_2_code 2 none) (Z0 : n0 ≤ h0.size) {o0 : Nat} {pf : Nat} {pp : Nat} {pd : Nat} {n : Int32} (rr : (List Int32) × (List Int32) × (List Int32)) (hP : ∀ v h L, Fr n0 L → Keep h0 h [pf, pp, pd] → E11 Z h0 o0 pf pp pd n rr v h → P v h L) (k : Nat) : ∀ {T : State} {locs : List Loc} {h : Heap} {v_pf : List Int32} {v_pp : List Int32} {v_pd : List Int32} (X : Stand p l e rmR11 s m args below meth c T locs 0 0) (e0 : T.heap = h) (N : Fr n0 locs) (K : Keep h0 h [pf, pp, pd]) (o_o0_pf : o0 < pf) (o_pf_pp : pf < pp) (o_pp_pd : pp < pd) (g_o0 : n0 ≤ o0) (E_o0 : Exa Z h o0 "com/example/gridfare/gridfare/engine/LoweringTree") (Fo0_4 : Fld Z h o0 "com/example/gridfare/gridfare/engine/LoweringTree" "root" "I" (.int n)) (Fo0_5 : Fld Z h o0 "com/example/gridfare/gridfare/engine/LoweringTree" "following" "[I" (.ref pf)) (Fo0_6 : Fld Z h o0 "com/example/gridfare/gridfare/engine/LoweringTree" "preceding" "[I" (.ref pp)) (Fo0_7 : Fld Z h o0 "com/example/gridfare/gridfare/engine/LoweringTree" "depth" "[I" (.ref pd)) (V_pf : own_AI Z h pf .int v_pf) (V_pp : own_AI Z h pp .int v_pp) (V_pd : own_AI Z h pd .int v_pd) (x1 : Int32) (hv : f11_2 k n v_pf v_pp v_pd x1 = some rr),
    own_WP p e below (own_Q s P rmR11.cells rmR11.slots) T (mkF m 2 #[.val (.ref o0), .val (.int x1)] []) := by
  obtain ⟨hx, hZ, hby, hml, hown, hnm, hret, hlk⟩ := id C
  replace hown : s.vm.findClass "com/example/gridfare/gridfare/engine/LoweringTree" = some m.cls := hown
  induction k with
  | zero => intros; rename_i hv; cases hv
  | succ k ih =>
    intro T locs h v_pf v_pp v_pd X e0 N K o_o0_pf o_pf_pp o_pp_pd g_o0 E_o0 Fo0_4 Fo0_5 Fo0_6 Fo0_7 V_pf V_pp V_pd x1 hv
    unfold f11_2 at hv
    show own_WP p e below _ T (mkF m 2 #[.val (.ref o0), .val (.int x1)] [])
    refine own_go (fun _ => XS.iloadN X.here hx rfl (hb hby d11_2) rfl) ?_
    show own_WP p e below _ T (mkF m 3 _ [(.int x1)])
    refine own_go (fun _ => XS.aloadN X.here hx rfl (hb hby d11_3) rfl rfl) ?_
    show own_WP p e below _ T (mkF m 4 _ [(.ref o0), (.int x1)])
    obtain ⟨T1, X1, e1, st1⟩ := getF X hx hZ hown (host := "") (Or.inl (hw _ (List.mem_of_getElem? (i := 97) rfl))) Via.refl e0 Fo0_4 (g := (mkF m 4 #[.val (.ref o0), .val (.int x1)] [(.ref o0), (.int x1)])) rfl rfl (hb hby d11_4)
    refine own_go st1 ?_
    clear st1 X e0
    show own_WP p e below _ T1 (mkF m 7 _ [(.int n), (.int x1)])
    by_cases h7 : x1 < n
    · replace hv := (if_pos h7).symm.trans hv
      refine own_go (fun _ => XS.icmpNo X1.here hx rfl (hb hby d11_7) rfl (XT.ii_ge_f h7)) ?_
      show own_WP p e below _ T1 (mkF m 10 #[.val (.ref o0), .val (.int x1)] [])
      refine own_go (fun _ => XS.aloadN X1.here hx rfl (hb hby d11_10) rfl rfl) ?_
      show own_WP p e below _ T1 (mkF m 11 _ [(.ref o0)])
      obtain ⟨T2, X2, e2, st2⟩ := getF X1 hx hZ hown (host := "") (Or.inl (hw _ (List.mem_of_getElem? (i := 99) rfl))) Via.refl e1 Fo0_5 (g := (mkF m 11 #[.val (.ref o0), .val (.int x1)] [(.ref o0)])) rfl rfl (hb hby d11_11)
      refine own_go st2 ?_
      clear st2 X1 e1
      show own_WP p e below _ T2 (mkF m 14 _ [(.ref pf)])
      refine own_go (fun _ => XS.iloadN X2.here hx rfl (hb hby d11_14) rfl) ?_
      show own_WP p e below _ T2 (mkF m 15 _ [(.int x1), (.ref pf)])
      refine own_go (fun _ => XS.iloadN X2.here hx rfl (hb hby d11_15) rfl) ?_
      show own_WP p e below _ T2 (mkF m 16 _ [(.int x1), (.int x1), (.ref pf)])
      refine own_go (fun _ => XS.iconst X2.here hx rfl (hb hby d11_16)) ?_
      show own_WP p e below _ T2 (mkF m 17 _ [(.int (1 : Int32)), (.int x1), (.int x1), (.ref pf)])
      refine own_go (fun _ => XS.iadd X2.here hx rfl (hb hby d11_17) rfl) ?_
      show own_WP p e below _ T2 (mkF m 18 _ [(.int (x1 + (1 : Int32))), (.int x1), (.ref pf)])
      obtain ⟨u3, hg3, hv⟩ := own_bind hv
      obtain ⟨T3, h3, X3, e3, W3, V'3, st3⟩ := own_iastore X2 C e2 V_pf (j := x1) (x := (x1 + (1 : Int32))) hg3 (hb hby d11_18)
      refine own_go st3 ?_
      replace E_o0 := E_o0.wr W3
      have nq : @Ne Addr o0 pf := own_ne (by omega)
      replace Fo0_4 := Fo0_4.other W3 (Or.inl nq)
      replace Fo0_5 := Fo0_5.other W3 (Or.inl nq)
      replace Fo0_6 := Fo0_6.other W3 (Or.inl nq)
      replace Fo0_7 := Fo0_7.other W3 (Or.inl nq)
      clear nq
      replace V_pp := V_pp.other W3 (own_ne (by omega))
      replace V_pd := V_pd.other W3 (own_ne (by omega))
      replace V_pf := V'3
      clear V'3
      replace K := K.wr W3 (Or.inl (List.mem_of_getElem? (i := 0) rfl))
      replace N := Fr.snoc X3 N (by omega)
      clear st3 W3 hg3 X2 e2
      show own_WP p e below _ T3 (mkF m 19 _ [])
      refine own_go (fun _ => XS.aloadN X3.here hx rfl (hb hby d11_19) rfl rfl) ?_
      show own_WP p e below _ T3 (mkF m 20 #[.val (.ref o0), .val (.int x1)] [(.ref o0)])
      obtain ⟨T4, X4, e4, st4⟩ := getF X3 hx hZ hown (host := "") (Or.inl (hw _ (List.mem_of_getElem? (i := 101) rfl))) Via.refl e3 Fo0_6 (g := (mkF m 20 #[.val (.ref o0), .val (.int x1)] [(.ref o0)])) rfl rfl (hb hby d11_20)
      refine own_go st4 ?_
      clear st4 X3 e3
      show own_WP p e below _ T4 (mkF m 23 _ [(.ref pp)])
      refine own_go (fun _ => XS.iloadN X4.here hx rfl (hb hby d11_23) rfl) ?_
      show own_WP p e below _ T4 (mkF m 24 _ [(.int x1), (.ref pp)])
      refine own_go (fun _ => XS.iconst X4.here hx rfl (hb hby d11_24)) ?_
      show own_WP p e below _ T4 (mkF m 25 _ [(.int (1 : Int32)), (.int x1), (.ref pp)])
      refine own_go (fun _ => XS.iadd X4.here hx rfl (hb hby d11_25) rfl) ?_
      show own_WP p e below _ T4 (mkF m 26 _ [(.int (x1 + (1 : Int32))), (.ref pp)])
      refine own_go (fun _ => XS.iloadN X4.here hx rfl (hb hby d11_26) rfl) ?_
      show own_WP p e below _ T4 (mkF m 27 _ [(.int x1), (.int (x1 + (1 : Int32))), (.ref pp)])
      obtain ⟨u5, hg5, hv⟩ := own_bind hv
      obtain ⟨T5, h5, X5, e5, W5, V'5, st5⟩ := own_iastore X4 C e4 V_pp (j := (x1 + (1 : Int32))) (x := x1) hg5 (hb hby d11_27)
      refine own_go st5 ?_
      replace E_o0 := E_o0.wr W5
      have nq : @Ne Addr o0 pp := own_ne (by omega)
      replace Fo0_4 := Fo0_4.other W5 (Or.inl nq)
      replace Fo0_5 := Fo0_5.other W5 (Or.inl nq)
      replace Fo0_6 := Fo0_6.other W5 (Or.inl nq)
      replace Fo0_7 := Fo0_7.other W5 (Or.inl nq)
      clear nq
      replace V_pf := V_pf.other W5 (own_ne (by omega))
      replace V_pd := V_pd.other W5 (own_ne (by omega))
      replace V_pp := V'5
      clear V'5
      replace K := K.wr W5 (Or.inl (List.mem_of_getElem? (i := 1) rfl))
      replace N := Fr.snoc X5 N (by omega)
      clear st5 W5 hg5 X4 e4
      show own_WP p e below _ T5 (mkF m 28 _ [])
      refine own_go (fun _ => XS.aloadN X5.here hx rfl (hb hby d11_28) rfl rfl) ?_
      show own_WP p e below _ T5 (mkF m 29 _ [(.ref o0)])
      obtain ⟨T6, X6, e6, st6⟩ := getF X5 hx hZ hown (host := "") (Or.inl (hw _ (List.mem_of_getElem? (i := 103) rfl))) Via.refl e5 Fo0_7 (g := (mkF m 29 #[.val (.ref o0), .val (.int x1)] [(.ref o0)])) rfl rfl (hb hby d11_29)
      refine own_go st6 ?_
      clear st6 X5 e5
      show own_WP p e below _ T6 (mkF m 32 #[.val (.ref o0), .val (.int x1)] [(.ref pd)])
      refine own_go (fun _ => XS.iloadN X6.here hx rfl (hb hby d11_32) rfl) ?_
      show own_WP p e below _ T6 (mkF m 33 _ [(.int x1), (.ref pd)])
      refine own_go (fun _ => XS.iconst X6.here hx rfl (hb hby d11_33)) ?_
      show own_WP p e below _ T6 (mkF m 34 _ [(.int (1 : Int32)), (.int x1), (.ref pd)])
      obtain ⟨u7, hg7, hv⟩ := own_bind hv
      obtain ⟨T7, h7, X7, e7, W7, V'7, st7⟩ := own_iastore X6 C e6 V_pd (j := x1) (x := (1 : Int32)) hg7 (hb hby d11_34)
      refine own_go st7 ?_
      replace E_o0 := E_o0.wr W7
      have nq : @Ne Addr o0 pd := own_ne (by omega)
      replace Fo0_4 := Fo0_4.other W7 (Or.inl nq)
      replace Fo0_5 := Fo0_5.other W7 (Or.inl nq)
      replace Fo0_6 := Fo0_6.other W7 (Or.inl nq)
      replace Fo0_7 := Fo0_7.other W7 (Or.inl nq)
      clear nq
      replace V_pf := V_pf.other W7 (own_ne (by omega))
      replace V_pp := V_pp.other W7 (own_ne (by omega))
      replace V_pd := V'7
      clear V'7
      replace K := K.wr W7 (Or.inl (List.mem_of_getElem? (i := 2) rfl))
      replace N := Fr.snoc X7 N (by omega)
      clear st7 W7 hg7 X6 e6
      show own_WP p e below _ T7 (mkF m 35 #[.val (.ref o0), .val (.int x1)] [])
      refine own_go (fun _ => XS.iinc X7.here hx rfl (hb hby d11_35) rfl rfl) ?_
      show own_WP p e below _ T7 (mkF m 38 #[.val (.ref o0), .val (.int (x1 + (1 : Int32)))] [])
      refine own_go (fun _ => XS.goto X7.here hx rfl (pc0 := 38) (pc' := 2) rfl (hb hby d11_38) (by decide) (by decide)) ?_
      exact ih X7 e7 N K o_o0_pf o_pf_pp o_pp_pd g_o0 E_o0 Fo0_4 Fo0_5 Fo0_6 Fo0_7 V_pf V_pp V_pd (x1 + (1 : Int32)) hv
    · replace hv := (if_neg h7).symm.trans hv
      refine own_go (fun _ => XS.icmpYes X1.here hx rfl (pc0 := 7) (pc' := 41) rfl (hb hby d11_7) rfl (XT.ii_ge_t h7) (by decide) (by decide)) ?_
      show own_WP p e below _ T1 (mkF m 41 #[.val (.ref o0), .val (.int x1)] [])
      refine own_go (fun _ => XS.aloadN X1.here hx rfl (hb hby d11_41) rfl rfl) ?_
      show own_WP p e below _ T1 (mkF m 42 _ [(.ref o0)])
      obtain ⟨T8, X8, e8, st8⟩ := getF X1 hx hZ hown (host := "") (Or.inl (hw _ (List.mem_of_getElem? (i := 99) rfl))) Via.refl e1 Fo0_5 (g := (mkF m 42 #[.val (.ref o0), .val (.int x1)] [(.ref o0)])) rfl rfl (hb hby d11_42)
      refine own_go st8 ?_
      clear st8 X1 e1
      show own_WP p e below _ T8 (mkF m 45 _ [(.ref pf)])
      refine own_go (fun _ => XS.aloadN X8.here hx rfl (hb hby d11_45) rfl rfl) ?_
      show own_WP p e below _ T8 (mkF m 46 _ [(.ref o0), (.ref pf)])
      obtain ⟨T9, X9, e9, st9⟩ := getF X8 hx hZ hown (host := "") (Or.inl (hw _ (List.mem_of_getElem? (i := 97) rfl))) Via.refl e8 Fo0_4 (g := (mkF m 46 #[.val (.ref o0), .val (.int x1)] [(.ref o0), (.ref pf)])) rfl rfl (hb hby d11_46)
      refine own_go st9 ?_
      clear st9 X8 e8
      show own_WP p e below _ T9 (mkF m 49 _ [(.int n), (.ref pf)])
      refine own_go (fun _ => XS.iconst X9.here hx rfl (hb hby d11_49)) ?_
      show own_WP p e below _ T9 (mkF m 50 _ [(.int (0 : Int32)), (.int n), (.ref pf)])
      obtain ⟨u10, hg10, hv⟩ := own_bind hv
      obtain ⟨T10, h10, X10, e10, W10, V'10, st10⟩ := own_iastore X9 C e9 V_pf (j := n) (x := (0 : Int32)) hg10 (hb hby d11_50)
      refine own_go st10 ?_
      replace E_o0 := E_o0.wr W10
      have nq : @Ne Addr o0 pf := own_ne (by omega)
      replace Fo0_4 := Fo0_4.other W10 (Or.inl nq)
      replace Fo0_5 := Fo0_5.other W10 (Or.inl nq)
      replace Fo0_6 := Fo0_6.other W10 (Or.inl nq)
      replace Fo0_7 := Fo0_7.other W10 (Or.inl nq)
      clear nq
      replace V_pp := V_pp.other W10 (own_ne (by omega))
      replace V_pd := V_pd.other W10 (own_ne (by omega))
      replace V_pf := V'10
      clear V'10
      replace K := K.wr W10 (Or.inl (List.mem_of_getElem? (i := 0) rfl))
      replace N := Fr.snoc X10 N (by omega)
      clear st10 W10 hg10 X9 e9
      show own_WP p e below _ T10 (mkF m 51 _ [])
      refine own_go (fun _ => XS.aloadN X10.here hx rfl (hb hby d11_51) rfl rfl) ?_
      show own_WP p e below _ T10 (mkF m 52 _ [(.ref o0)])
      obtain ⟨T11, X11, e11, st11⟩ := getF X10 hx hZ hown (host := "") (Or.inl (hw _ (List.mem_of_getElem? (i := 101) rfl))) Via.refl e10 Fo0_6 (g := (mkF m 52 #[.val (.ref o0), .val (.int x1)] [(.ref o0)])) rfl rfl (hb hby d11_52)
      refine own_go st11 ?_
      clear st11 X10 e10
      show own_WP p e below _ T11 (mkF m 55 #[.val (.ref o0), .val (.int x1)] [(.ref pp)])
      refine own_go (fun _ => XS.iconst X11.here hx rfl (hb hby d11_55)) ?_
      show own_WP p e below _ T11 (mkF m 56 _ [(.int (0 : Int32)), (.ref pp)])
      refine own_go (fun _ => XS.aloadN X11.here hx rfl (hb hby d11_56) rfl rfl) ?_
      show own_WP p e below _ T11 (mkF m 57 _ [(.ref o0), (.int (0 : Int32)), (.ref pp)])
      obtain ⟨T12, X12, e12, st12⟩ := getF X11 hx hZ hown (host := "") (Or.inl (hw _ (List.mem_of_getElem? (i := 97) rfl))) Via.refl e11 Fo0_4 (g := (mkF m 57 #[.val (.ref o0), .val (.int x1)] [(.ref o0), (.int (0 : Int32)), (.ref pp)])) rfl rfl (hb hby d11_57)
      refine own_go st12 ?_
      clear st12 X11 e11
      show own_WP p e below _ T12 (mkF m 60 _ [(.int n), (.int (0 : Int32)), (.ref pp)])
      obtain ⟨u13, hg13, hv⟩ := own_bind hv
      obtain ⟨T13, h13, X13, e13, W13, V'13, st13⟩ := own_iastore X12 C e12 V_pp (j := (0 : Int32)) (x := n) hg13 (hb hby d11_60)
      refine own_go st13 ?_
      replace E_o0 := E_o0.wr W13
      have nq : @Ne Addr o0 pp := own_ne (by omega)
      replace Fo0_4 := Fo0_4.other W13 (Or.inl nq)
      replace Fo0_5 := Fo0_5.other W13 (Or.inl nq)
      replace Fo0_6 := Fo0_6.other W13 (Or.inl nq)
      replace Fo0_7 := Fo0_7.other W13 (Or.inl nq)
      clear nq
      replace V_pf := V_pf.other W13 (own_ne (by omega))
      replace V_pd := V_pd.other W13 (own_ne (by omega))
      replace V_pp := V'13
      clear V'13
      replace K := K.wr W13 (Or.inl (List.mem_of_getElem? (i := 1) rfl))
      replace N := Fr.snoc X13 N (by omega)
      clear st13 W13 hg13 X12 e12
      show own_WP p e below _ T13 (mkF m 61 _ [])
      refine own_go (fun _ => XS.aloadN X13.here hx rfl (hb hby d11_61) rfl rfl) ?_
      show own_WP p e below _ T13 (mkF m 62 _ [(.ref o0)])
      obtain ⟨T14, X14, e14, st14⟩ := getF X13 hx hZ hown (host := "") (Or.inl (hw _ (List.mem_of_getElem? (i := 103) rfl))) Via.refl e13 Fo0_7 (g := (mkF m 62 #[.val (.ref o0), .val (.int x1)] [(.ref o0)])) rfl rfl (hb hby d11_62)
      refine own_go st14 ?_
      clear st14 X13 e13
      show own_WP p e below _ T14 (mkF m 65 _ [(.ref pd)])
      refine own_go (fun _ => XS.aloadN X14.here hx rfl (hb hby d11_65) rfl rfl) ?_
      show own_WP p e below _ T14 (mkF m 66 _ [(.ref o0), (.ref pd)])
      obtain ⟨T15, X15, e15, st15⟩ := getF X14 hx hZ hown (host := "") (Or.inl (hw _ (List.mem_of_getElem? (i := 97) rfl))) Via.refl e14 Fo0_4 (g := (mkF m 66 #[.val (.ref o0), .val (.int x1)] [(.ref o0), (.ref pd)])) rfl rfl (hb hby d11_66)
      refine own_go st15 ?_
      clear st15 X14 e14
      show own_WP p e below _ T15 (mkF m 69 #[.val (.ref o0), .val (.int x1)] [(.int n), (.ref pd)])
      refine own_go (fun _ => XS.iconst X15.here hx rfl (hb hby d11_69)) ?_
      show own_WP p e below _ T15 (mkF m 70 _ [(.int (0 : Int32)), (.int n), (.ref pd)])
      obtain ⟨u16, hg16, hv⟩ := own_bind hv
      obtain ⟨T16, h16, X16, e16, W16, V'16, st16⟩ := own_iastore X15 C e15 V_pd (j := n) (x := (0 : Int32)) hg16 (hb hby d11_70)
      refine own_go st16 ?_
      replace E_o0 := E_o0.wr W16
      have nq : @Ne Addr o0 pd := own_ne (by omega)
      replace Fo0_4 := Fo0_4.other W16 (Or.inl nq)
      replace Fo0_5 := Fo0_5.other W16 (Or.inl nq)
      replace Fo0_6 := Fo0_6.other W16 (Or.inl nq)
      replace Fo0_7 := Fo0_7.other W16 (Or.inl nq)
      clear nq
      replace V_pf := V_pf.other W16 (own_ne (by omega))
      replace V_pp := V_pp.other W16 (own_ne (by omega))
      replace V_pd := V'16
      clear V'16
      replace K := K.wr W16 (Or.inl (List.mem_of_getElem? (i := 2) rfl))
      replace N := Fr.snoc X16 N (by omega)
      clear st16 W16 hg16 X15 e15
      show own_WP p e below _ T16 (mkF m 71 #[.val (.ref o0), .val (.int x1)] [])
      obtain rfl := Option.some.inj hv
      exact own_retV X16 C (hb hby d11_71) (by rw [e16]; exact hP _ _ _ N K ⟨rfl, V_pf, V_pp, V_pd⟩) (by decide) (by decide)
def f11_0 (n : Int32) (v_pf : List Int32) (v_pp : List Int32) (v_pd : List Int32) : Option ((List Int32) × (List Int32) × (List Int32)) := (f11_2 20 n v_pf v_pp v_pd (0 : Int32))
set_option maxRecDepth 65536 in
set_option maxHeartbeats 40000000 in
theorem b11_0 {p : Program} {l : Launch} {e : Env} {s : State} {m : MethodId} {args : Array Value} {below : List Frame} {meth : Method} {c : Code} {Z : State} {a0 : Array Value} {h0 : Heap} {n0 : Nat} {P : Option Value → Heap → List Loc → Prop} (hw : ∀ d ∈ tables_1, d.before a0 Z = true) (C : own_Ctx p s m meth c Z (⟨"com/example/gridfare/gridfare/engine/LoweringTree", "plant", "()V"⟩ : MethodName) prog_39_method_2_code 2 none) (Z0 : n0 ≤ h0.size) {o0 : Nat} {pf : Nat} {pp : Nat} {pd : Nat} {n : Int32} (rr : (List Int32) × (List Int32) × (List Int32)) (hP : ∀ v h L, Fr n0 L → Keep h0 h [pf, pp, pd] → E11 Z h0 o0 pf pp pd n rr v h → P v h L)
    {T : State} {locs : List Loc} {h : Heap} {v_pf : List Int32} {v_pp : List Int32} {v_pd : List Int32} (X : Stand p l e rmR11 s m args below meth c T locs 0 0) (e0 : T.heap = h) (N : Fr n0 locs) (K : Keep h0 h [pf, pp, pd]) (o_o0_pf : o0 < pf) (o_pf_pp : pf < pp) (o_pp_pd : pp < pd) (g_o0 : n0 ≤ o0) (E_o0 : Exa Z h o0 "com/example/gridfare/gridfare/engine/LoweringTree") (Fo0_4 : Fld Z h o0 "com/example/gridfare/gridfare/engine/LoweringTree" "root" "I" (.int n)) (Fo0_5 : Fld Z h o0 "com/example/gridfare/gridfare/engine/LoweringTree" "following" "[I" (.ref pf)) (Fo0_6 : Fld Z h o0 "com/example/gridfare/gridfare/engine/LoweringTree" "preceding" "[I" (.ref pp)) (Fo0_7 : Fld Z h o0 "com/example/gridfare/gridfare/engine/LoweringTree" "depth" "[I" (.ref pd)) (V_pf : own_AI Z h pf .int v_pf) (V_pp : own_AI Z h pp .int v_pp) (V_pd : own_AI Z h pd .int v_pd) (hv : f11_0 n v_pf v_pp v_pd = some rr) :
    own_WP p e below (own_Q s P rmR11.cells rmR11.slots) T (mkF m 0 #[.val (.ref o0), .unset] []) := by
  obtain ⟨hx, hZ, hby, hml, hown, hnm, hret, hlk⟩ := id C
  replace hown : s.vm.findClass "com/example/gridfare/gridfare/engine/LoweringTree" = some m.cls := hown
  unfold f11_0 at hv
  show own_WP p e below _ T (mkF m 0 #[.val (.ref o0), .unset] [])
  refine own_go (fun _ => XS.iconst X.here hx rfl (hb hby d11_0)) ?_
  show own_WP p e below _ T (mkF m 1 #[.val (.ref o0), .unset] [(.int (0 : Int32))])
  refine own_go (fun _ => XS.istoreN X.here hx rfl (hb hby d11_1) rfl rfl) ?_
  show own_WP p e below _ T (mkF m 2 #[.val (.ref o0), .val (.int (0 : Int32))] [])
  exact b11_2 hw C Z0 rr hP 20 X e0 N K o_o0_pf o_pf_pp o_pp_pd g_o0 E_o0 Fo0_4 Fo0_5 Fo0_6 Fo0_7 V_pf V_pp V_pd (0 : Int32) hv
theorem ef11 (m : MethodId) (o0 : Nat) : entryFrame m #[(.ref o0)] 2 = (mkF m 0 #[.val (.ref o0), .unset] []) := by first | (simp [entryFrame, mkF, argsToLocals, Value.category]; done) | rfl
theorem pd11 : parseMethodDescriptor "()V" = some ⟨[], none⟩ := by decide +kernel
theorem pn11 : plainFor (⟨"com/example/gridfare/gridfare/engine/LoweringTree", "plant", "()V"⟩ : MethodName) = true := plainFor_of_name (by first | (simp [plainName, overriddenIn]; done) | decide +kernel)
theorem rm11 (l : Launch) (Z : State) (a0 : Array Value) (hw : ∀ d ∈ tables_1, d.before a0 Z = true) (n0 : Nat) (h0 : Heap) (Z0 : n0 ≤ h0.size) {o0 : Nat} {pf : Nat} {pp : Nat} {pd : Nat} {n : Int32} {v_pf : List Int32} {v_pp : List Int32} {v_pd : List Int32} (o_o0_pf : o0 < pf) (o_pf_pp : pf < pp) (o_pp_pd : pp < pd) (g_o0 : n0 ≤ o0) (E_o0 : Exa Z h0 o0 "com/example/gridfare/gridfare/engine/LoweringTree") (Fo0_4 : Fld Z h0 o0 "com/example/gridfare/gridfare/engine/LoweringTree" "root" "I" (.int n)) (Fo0_5 : Fld Z h0 o0 "com/example/gridfare/gridfare/engine/LoweringTree" "following" "[I" (.ref pf)) (Fo0_6 : Fld Z h0 o0 "com/example/gridfare/gridfare/engine/LoweringTree" "preceding" "[I" (.ref pp)) (Fo0_7 : Fld Z h0 o0 "com/example/gridfare/gridfare/engine/LoweringTree" "depth" "[I" (.ref pd)) (V_pf : own_AI Z h0 pf .int v_pf) (V_pp : own_AI Z h0 pp .int v_pp) (V_pd : own_AI Z h0 pd .int v_pd)   (rr : (List Int32) × (List Int32) × (List Int32)) (hf : f11_0 n v_pf v_pp v_pd = some rr) :
    own_Met l Z (⟨"com/example/gridfare/gridfare/engine/LoweringTree", "plant", "()V"⟩ : MethodName) prog_39_method_2_code 2 none [] rmR11 #[(.ref o0)] h0 (fun v h L => Fr n0 L ∧ Keep h0 h [pf, pp, pd] ∧ E11 Z h0 o0 pf pp pd n rr v h) := by
  refine own_body pn11 ?_
  intro p e s m below meth c s₁ C X e0
  exact own_cast (ef11 m o0) (b11_0 hw C Z0 rr (fun v h L a b c => ⟨a, b, c⟩) X e0 (Fr.nil n0) (Keep.refl h0 [pf, pp, pd]) o_o0_pf o_pf_pp o_pp_pd g_o0 E_o0 Fo0_4 Fo0_5 Fo0_6 Fo0_7 V_pf V_pp V_pd hf)
theorem d10_0 : decode prog_39_method_1_code 0 = .ok (.aload_n 0, 1) := by decide +kernel
theorem d10_1 : decode prog_39_method_1_code 1 = .ok (.invokespecial 1, 3) := by decide +kernel
theorem d10_4 : decode prog_39_method_1_code 4 = .ok (.aload_n 0, 1) := by decide +kernel
theorem d10_5 : decode prog_39_method_1_code 5 = .ok (.iload_n 1, 1) := by decide +kernel
theorem d10_6 : decode prog_39_method_1_code 6 = .ok (.putfield 7, 3) := by decide +kernel
theorem d10_9 : decode prog_39_method_1_code 9 = .ok (.aload_n 0, 1) := by decide +kernel
theorem d10_10 : decode prog_39_method_1_code 10 = .ok (.iload_n 1, 1) := by decide +kernel
theorem d10_11 : decode prog_39_method_1_code 11 = .ok (.iconst 1, 1) := by decide +kernel
theorem d10_12 : decode prog_39_method_1_code 12 = .ok (.iadd, 1) := by decide +kernel
theorem d10_13 : decode prog_39_method_1_code 13 = .ok (.newarray .int, 2) := by decide +kernel
theorem d10_15 : decode prog_39_method_1_code 15 = .ok (.putfield 13, 3) := by decide +kernel
theorem d10_18 : decode prog_39_method_1_code 18 = .ok (.aload_n 0, 1) := by decide +kernel
theorem d10_19 : decode prog_39_method_1_code 19 = .ok (.iload_n 1, 1) := by decide +kernel
theorem d10_20 : decode prog_39_method_1_code 20 = .ok (.iconst 1, 1) := by decide +kernel
theorem d10_21 : decode prog_39_method_1_code 21 = .ok (.iadd, 1) := by decide +kernel
theorem d10_22 : decode prog_39_method_1_code 22 = .ok (.newarray .int, 2) := by decide +kernel
theorem d10_24 : decode prog_39_method_1_code 24 = .ok (.putfield 17, 3) := by decide +kernel
theorem d10_27 : decode prog_39_method_1_code 27 = .ok (.aload_n 0, 1) := by decide +kernel
theorem d10_28 : decode prog_39_method_1_code 28 = .ok (.iload_n 1, 1) := by decide +kernel
theorem d10_29 : decode prog_39_method_1_code 29 = .ok (.iconst 1, 1) := by decide +kernel
theorem d10_30 : decode prog_39_method_1_code 30 = .ok (.iadd, 1) := by decide +kernel
theorem d10_31 : decode prog_39_method_1_code 31 = .ok (.newarray .int, 2) := by decide +kernel
theorem d10_33 : decode prog_39_method_1_code 33 = .ok (.putfield 20, 3) := by decide +kernel
theorem d10_36 : decode prog_39_method_1_code 36 = .ok (.aload_n 0, 1) := by decide +kernel
theorem d10_37 : decode prog_39_method_1_code 37 = .ok (.invokevirtual 23, 3) := by decide +kernel
theorem d10_40 : decode prog_39_method_1_code 40 = .ok (.return_, 1) := by decide +kernel
def rmR10 : Room := { frames := 1, cells := 3, slots := 12, locals := 13 }
def E10 (Z : State) (h0 : Heap) (o0 : Nat) (n : Int32) (rr : Unit) (v : Option Value) (h : Heap) : Prop := v = none ∧ Exa Z h o0 "com/example/gridfare/gridfare/engine/LoweringTree"
theorem ly4 {a0 : Array Value} {Z : State} (hw : ∀ d ∈ tables_1, d.before a0 Z = true) : Laid Z a0 "com/example/gridfare/gridfare/engine/LoweringTree" "com/example/gridfare/gridfare/engine/LoweringTree" "following" "[I" := (Or.inr (hw _ (List.mem_of_getElem? (i := 100) rfl)))
theorem ly5 {a0 : Array Value} {Z : State} (hw : ∀ d ∈ tables_1, d.before a0 Z = true) : Laid Z a0 "com/example/gridfare/gridfare/engine/LoweringTree" "com/example/gridfare/gridfare/engine/LoweringTree" "root" "I" := (Or.inr (hw _ (List.mem_of_getElem? (i := 98) rfl)))
theorem pf1 : parseFieldDescriptor "I" = some .int := by decide
theorem ly6 {a0 : Array Value} {Z : State} (hw : ∀ d ∈ tables_1, d.before a0 Z = true) : Laid Z a0 "com/example/gridfare/gridfare/engine/LoweringTree" "com/example/gridfare/gridfare/engine/LoweringTree" "preceding" "[I" := (Or.inr (hw _ (List.mem_of_getElem? (i := 102) rfl)))
theorem ly7 {a0 : Array Value} {Z : State} (hw : ∀ d ∈ tables_1, d.before a0 Z = true) : Laid Z a0 "com/example/gridfare/gridfare/engine/LoweringTree" "com/example/gridfare/gridfare/engine/LoweringTree" "depth" "[I" := (Or.inr (hw _ (List.mem_of_getElem? (i := 104) rfl)))
def f10_0 (x1 : Int32) : Option (Unit) := (if (x1 + (1 : Int32)) < 0 ∨ 4 < (x1 + (1 : Int32)).toInt then none else (if (x1 + (1 : Int32)) < 0 ∨ 4 < (x1 + (1 : Int32)).toInt then none else (if (x1 + (1 : Int32)) < 0 ∨ 4 < (x1 + (1 : Int32)).toInt then none else ((f11_0 x1 (List.replicate ((x1 + (1 : Int32))).toNatClampNeg 0) (List.replicate ((x1 + (1 : Int32))).toNatClampNeg 0) (List.replicate ((x1 + (1 : Int32))).toNatClampNeg 0)).bind fun rr9 => (some ())))))
set_option maxRecDepth 65536 in
set_option maxHeartbeats 40000000 in
theorem b10_0 {p : Program} {l : Launch} {e : Env} {s : State} {m : MethodId} {args : Array Value} {below : List Frame} {meth : Method} {c : Code} {Z : State} {a0 : Array Value} {h0 : Heap} {n0 : Nat} {P : Option Value → Heap → List Loc → Prop} (hw : ∀ d ∈ tables_1, d.before a0 Z = true) (C : own_Ctx p s m meth c Z (⟨"com/example/gridfare/gridfare/engine/LoweringTree", "<init>", "(I)V"⟩ : MethodName) prog_39_method_1_code 2 none) (Z0 : n0 ≤ h0.size) {o0 : Nat} {n : Int32} (rr : Unit) (hP : ∀ v h L, Fr n0 L → Keep h0 h [o0] → E10 Z h0 o0 n rr v h → P v h L)
    {T : State} {locs : List Loc} {h : Heap} (X : Stand p l e rmR10 s m args below meth c T locs 0 0) (e0 : T.heap = h) (N : Fr n0 locs) (K : Keep h0 h [o0]) (g_o0 : n0 ≤ o0) (E_o0 : Exa Z h o0 "com/example/gridfare/gridfare/engine/LoweringTree") (Fo0_4 : Fld Z h o0 "com/example/gridfare/gridfare/engine/LoweringTree" "root" "I" (.int n)) (Fo0_5 : Fld Z h o0 "com/example/gridfare/gridfare/engine/LoweringTree" "following" "[I" .null) (Fo0_6 : Fld Z h o0 "com/example/gridfare/gridfare/engine/LoweringTree" "preceding" "[I" .null) (Fo0_7 : Fld Z h o0 "com/example/gridfare/gridfare/engine/LoweringTree" "depth" "[I" .null) (x1 : Int32) (hv : f10_0 x1 = some rr) :
    own_WP p e below (own_Q s P rmR10.cells rmR10.slots) T (mkF m 0 #[.val (.ref o0), .val (.int x1)] []) := by
  obtain ⟨hx, hZ, hby, hml, hown, hnm, hret, hlk⟩ := id C
  replace hown : s.vm.findClass "com/example/gridfare/gridfare/engine/LoweringTree" = some m.cls := hown
  unfold f10_0 at hv
  show own_WP p e below _ T (mkF m 0 #[.val (.ref o0), .val (.int x1)] [])
  refine own_go (fun _ => XS.aloadN X.here hx rfl (hb hby d10_0) rfl rfl) ?_
  show own_WP p e below _ T (mkF m 1 #[.val (.ref o0), .val (.int x1)] [(.ref o0)])
  obtain ⟨T1, X1, e1, st1⟩ := initO X hx hZ hown (hw _ (List.mem_of_getElem? (i := 96) rfl)) (hw _ (List.mem_of_getElem? (i := 18) rfl)) (hw _ (List.mem_of_getElem? (i := 19) rfl)) e0 (g := (mkF m 1 #[.val (.ref o0), .val (.int x1)] [(.ref o0)])) rfl (by rw [hml]; rfl) rfl (hb hby d10_1) (by decide) (W := 0) (by show 2 * 0 + _ ≤ _; exact Nat.le_of_eq rfl) (by decide)
  refine own_go st1 ?_
  show own_WP p e below _ T1 (mkF m 4 _ [])
  refine own_go (fun _ => XS.aloadN X1.here hx rfl (hb hby d10_4) rfl rfl) ?_
  show own_WP p e below _ T1 (mkF m 5 _ [(.ref o0)])
  refine own_go (fun _ => XS.iloadN X1.here hx rfl (hb hby d10_5) rfl) ?_
  show own_WP p e below _ T1 (mkF m 6 #[.val (.ref o0), .val (.int x1)] [(.int x1), (.ref o0)])
  obtain ⟨T2, h2, X2, e2, W2, st2⟩ := putF X1 hx hZ hown (host := "") (Or.inl (hw _ (List.mem_of_getElem? (i := 97) rfl))) Via.refl e1 Fo0_4 E_o0 (Or.inr ⟨(hw _ (List.mem_of_getElem? (i := 98) rfl)), rfl, hnm⟩) (hw _ (List.mem_of_getElem? (i := 91) rfl)) (ty := .int) (by decide) rfl rfl (g := (mkF m 6 #[.val (.ref o0), .val (.int x1)] [(.int x1), (.ref o0)])) rfl rfl (hb hby d10_6)
  refine own_go st2 ?_
  replace E_o0 := E_o0.wr W2
  replace Fo0_4 := Fo0_4.same W2
  replace Fo0_5 := Fo0_5.other W2 (Or.inr (slot_ne (ly4 hw) (ly5 hw) (by decide) pf0 pf1))
  replace Fo0_6 := Fo0_6.other W2 (Or.inr (slot_ne (ly6 hw) (ly5 hw) (by decide) pf0 pf1))
  replace Fo0_7 := Fo0_7.other W2 (Or.inr (slot_ne (ly7 hw) (ly5 hw) (by decide) pf0 pf1))
  replace K := K.wr W2 (Or.inl (List.mem_of_getElem? (i := 0) rfl))
  replace N := Fr.snoc X2 N (by omega)
  clear st2 W2 X1 e1
  show own_WP p e below _ T2 (mkF m 9 _ [])
  refine own_go (fun _ => XS.aloadN X2.here hx rfl (hb hby d10_9) rfl rfl) ?_
  show own_WP p e below _ T2 (mkF m 10 _ [(.ref o0)])
  refine own_go (fun _ => XS.iloadN X2.here hx rfl (hb hby d10_10) rfl) ?_
  show own_WP p e below _ T2 (mkF m 11 _ [(.int x1), (.ref o0)])
  refine own_go (fun _ => XS.iconst X2.here hx rfl (hb hby d10_11)) ?_
  show own_WP p e below _ T2 (mkF m 12 _ [(.int (1 : Int32)), (.int x1), (.ref o0)])
  refine own_go (fun _ => XS.iadd X2.here hx rfl (hb hby d10_12) rfl) ?_
  show own_WP p e below _ T2 (mkF m 13 #[.val (.ref o0), .val (.int x1)] [(.int (x1 + (1 : Int32))), (.ref o0)])
  by_cases h13 : (x1 + (1 : Int32)) < 0 ∨ 4 < (x1 + (1 : Int32)).toInt
  · cases ((if_pos h13).symm.trans hv)
  replace hv := (if_neg h13).symm.trans hv
  obtain ⟨T3, h3, b13, X3, e3, E3, hb_b13, V_b13, st3⟩ := own_newI X2 C e2 (aty := .int) (ty := .int) rfl rfl rfl (hw _ (List.mem_of_getElem? (i := 2) rfl)) (n := (x1 + (1 : Int32))) (fun q => h13 (Or.inl q)) (cap := 4) (own_cap (k := 4) rfl (fun q => h13 (Or.inr q))) (by decide) (by decide) (by decide) (pc := 13) (Ls := #[.val (.ref o0), .val (.int x1)]) (rest := [(.ref o0)]) (hb hby d10_13)
  refine own_go st3 ?_
  have o_o0_b13 : o0 < b13 := by have q : o0 < h2.size := E_o0.lt; omega
  have z_b13 : h0.size ≤ b13 := by have q := K.1; omega
  replace E_o0 := E_o0.ext E3
  replace Fo0_4 := Fo0_4.ext E3
  replace Fo0_5 := Fo0_5.ext E3
  replace Fo0_6 := Fo0_6.ext E3
  replace Fo0_7 := Fo0_7.ext E3
  replace K := K.ext E3
  clear st3 E3 hb_b13 X2 e2
  show own_WP p e below _ T3 (mkF m 15 #[.val (.ref o0), .val (.int x1)] [(.ref b13), (.ref o0)])
  obtain ⟨T4, h4, X4, e4, W4, st4⟩ := putF X3 hx hZ hown (host := "") (Or.inl (hw _ (List.mem_of_getElem? (i := 99) rfl))) Via.refl e3 Fo0_5 E_o0 (Or.inr ⟨(hw _ (List.mem_of_getElem? (i := 100) rfl)), rfl, hnm⟩) (hw _ (List.mem_of_getElem? (i := 91) rfl)) (ty := (.array .int)) (by decide) rfl rfl (g := (mkF m 15 #[.val (.ref o0), .val (.int x1)] [(.ref b13), (.ref o0)])) rfl rfl (hb hby d10_15)
  refine own_go st4 ?_
  replace E_o0 := E_o0.wr W4
  replace Fo0_4 := Fo0_4.other W4 (Or.inr (slot_ne (ly5 hw) (ly4 hw) (by decide) pf1 pf0))
  replace Fo0_5 := Fo0_5.same W4
  replace Fo0_6 := Fo0_6.other W4 (Or.inr (slot_ne (ly6 hw) (ly4 hw) (by decide) pf0 pf0))
  replace Fo0_7 := Fo0_7.other W4 (Or.inr (slot_ne (ly7 hw) (ly4 hw) (by decide) pf0 pf0))
  replace V_b13 := V_b13.other W4 (own_ne (by omega))
  replace K := K.wr W4 (Or.inl (List.mem_of_getElem? (i := 0) rfl))
  replace N := Fr.snoc X4 N (by omega)
  clear st4 W4 X3 e3
  show own_WP p e below _ T4 (mkF m 18 _ [])
  refine own_go (fun _ => XS.aloadN X4.here hx rfl (hb hby d10_18) rfl rfl) ?_
  show own_WP p e below _ T4 (mkF m 19 _ [(.ref o0)])
  refine own_go (fun _ => XS.iloadN X4.here hx rfl (hb hby d10_19) rfl) ?_
  show own_WP p e below _ T4 (mkF m 20 _ [(.int x1), (.ref o0)])
  refine own_go (fun _ => XS.iconst X4.here hx rfl (hb hby d10_20)) ?_
  show own_WP p e below _ T4 (mkF m 21 _ [(.int (1 : Int32)), (.int x1), (.ref o0)])
  refine own_go (fun _ => XS.iadd X4.here hx rfl (hb hby d10_21) rfl) ?_
  show own_WP p e below _ T4 (mkF m 22 #[.val (.ref o0), .val (.int x1)] [(.int (x1 + (1 : Int32))), (.ref o0)])
  by_cases h22 : (x1 + (1 : Int32)) < 0 ∨ 4 < (x1 + (1 : Int32)).toInt
  · cases ((if_pos h22).symm.trans hv)
  replace hv := (if_neg h22).symm.trans hv
  obtain ⟨T5, h5, b22, X5, e5, E5, hb_b22, V_b22, st5⟩ := own_newI X4 C e4 (aty := .int) (ty := .int) rfl rfl rfl (hw _ (List.mem_of_getElem? (i := 2) rfl)) (n := (x1 + (1 : Int32))) (fun q => h22 (Or.inl q)) (cap := 4) (own_cap (k := 4) rfl (fun q => h22 (Or.inr q))) (by decide) (by decide) (by decide) (pc := 22) (Ls := #[.val (.ref o0), .val (.int x1)]) (rest := [(.ref o0)]) (hb hby d10_22)
  refine own_go st5 ?_
  have o_b13_b22 : b13 < b22 := by have q : b13 < h4.size := V_b13.lt; omega
  replace E_o0 := E_o0.ext E5
  replace Fo0_4 := Fo0_4.ext E5
  replace Fo0_5 := Fo0_5.ext E5
  replace Fo0_6 := Fo0_6.ext E5
  replace Fo0_7 := Fo0_7.ext E5
  replace V_b13 := V_b13.ext E5
  replace K := K.ext E5
  clear st5 E5 hb_b22 X4 e4
  show own_WP p e below _ T5 (mkF m 24 #[.val (.ref o0), .val (.int x1)] [(.ref b22), (.ref o0)])
  obtain ⟨T6, h6, X6, e6, W6, st6⟩ := putF X5 hx hZ hown (host := "") (Or.inl (hw _ (List.mem_of_getElem? (i := 101) rfl))) Via.refl e5 Fo0_6 E_o0 (Or.inr ⟨(hw _ (List.mem_of_getElem? (i := 102) rfl)), rfl, hnm⟩) (hw _ (List.mem_of_getElem? (i := 91) rfl)) (ty := (.array .int)) (by decide) rfl rfl (g := (mkF m 24 #[.val (.ref o0), .val (.int x1)] [(.ref b22), (.ref o0)])) rfl rfl (hb hby d10_24)
  refine own_go st6 ?_
  replace E_o0 := E_o0.wr W6
  replace Fo0_4 := Fo0_4.other W6 (Or.inr (slot_ne (ly5 hw) (ly6 hw) (by decide) pf1 pf0))
  replace Fo0_5 := Fo0_5.other W6 (Or.inr (slot_ne (ly4 hw) (ly6 hw) (by decide) pf0 pf0))
  replace Fo0_6 := Fo0_6.same W6
  replace Fo0_7 := Fo0_7.other W6 (Or.inr (slot_ne (ly7 hw) (ly6 hw) (by decide) pf0 pf0))
  replace V_b13 := V_b13.other W6 (own_ne (by omega))
  replace V_b22 := V_b22.other W6 (own_ne (by omega))
  replace K := K.wr W6 (Or.inl (List.mem_of_getElem? (i := 0) rfl))
  replace N := Fr.snoc X6 N (by omega)
  clear st6 W6 X5 e5
  show own_WP p e below _ T6 (mkF m 27 _ [])
  refine own_go (fun _ => XS.aloadN X6.here hx rfl (hb hby d10_27) rfl rfl) ?_
  show own_WP p e below _ T6 (mkF m 28 _ [(.ref o0)])
  refine own_go (fun _ => XS.iloadN X6.here hx rfl (hb hby d10_28) rfl) ?_
  show own_WP p e below _ T6 (mkF m 29 _ [(.int x1), (.ref o0)])
  refine own_go (fun _ => XS.iconst X6.here hx rfl (hb hby d10_29)) ?_
  show own_WP p e below _ T6 (mkF m 30 _ [(.int (1 : Int32)), (.int x1), (.ref o0)])
  refine own_go (fun _ => XS.iadd X6.here hx rfl (hb hby d10_30) rfl) ?_
  show own_WP p e below _ T6 (mkF m 31 #[.val (.ref o0), .val (.int x1)] [(.int (x1 + (1 : Int32))), (.ref o0)])
  by_cases h31 : (x1 + (1 : Int32)) < 0 ∨ 4 < (x1 + (1 : Int32)).toInt
  · cases ((if_pos h31).symm.trans hv)
  replace hv := (if_neg h31).symm.trans hv
  obtain ⟨T7, h7, b31, X7, e7, E7, hb_b31, V_b31, st7⟩ := own_newI X6 C e6 (aty := .int) (ty := .int) rfl rfl rfl (hw _ (List.mem_of_getElem? (i := 2) rfl)) (n := (x1 + (1 : Int32))) (fun q => h31 (Or.inl q)) (cap := 4) (own_cap (k := 4) rfl (fun q => h31 (Or.inr q))) (by decide) (by decide) (by decide) (pc := 31) (Ls := #[.val (.ref o0), .val (.int x1)]) (rest := [(.ref o0)]) (hb hby d10_31)
  refine own_go st7 ?_
  have o_b22_b31 : b22 < b31 := by have q : b22 < h6.size := V_b22.lt; omega
  replace E_o0 := E_o0.ext E7
  replace Fo0_4 := Fo0_4.ext E7
  replace Fo0_5 := Fo0_5.ext E7
  replace Fo0_6 := Fo0_6.ext E7
  replace Fo0_7 := Fo0_7.ext E7
  replace V_b13 := V_b13.ext E7
  replace V_b22 := V_b22.ext E7
  replace K := K.ext E7
  clear st7 E7 hb_b31 X6 e6
  show own_WP p e below _ T7 (mkF m 33 #[.val (.ref o0), .val (.int x1)] [(.ref b31), (.ref o0)])
  obtain ⟨T8, h8, X8, e8, W8, st8⟩ := putF X7 hx hZ hown (host := "") (Or.inl (hw _ (List.mem_of_getElem? (i := 103) rfl))) Via.refl e7 Fo0_7 E_o0 (Or.inr ⟨(hw _ (List.mem_of_getElem? (i := 104) rfl)), rfl, hnm⟩) (hw _ (List.mem_of_getElem? (i := 91) rfl)) (ty := (.array .int)) (by decide) rfl rfl (g := (mkF m 33 #[.val (.ref o0), .val (.int x1)] [(.ref b31), (.ref o0)])) rfl rfl (hb hby d10_33)
  refine own_go st8 ?_
  replace E_o0 := E_o0.wr W8
  replace Fo0_4 := Fo0_4.other W8 (Or.inr (slot_ne (ly5 hw) (ly7 hw) (by decide) pf1 pf0))
  replace Fo0_5 := Fo0_5.other W8 (Or.inr (slot_ne (ly4 hw) (ly7 hw) (by decide) pf0 pf0))
  replace Fo0_6 := Fo0_6.other W8 (Or.inr (slot_ne (ly6 hw) (ly7 hw) (by decide) pf0 pf0))
  replace Fo0_7 := Fo0_7.same W8
  replace V_b13 := V_b13.other W8 (own_ne (by omega))
  replace V_b22 := V_b22.other W8 (own_ne (by omega))
  replace V_b31 := V_b31.other W8 (own_ne (by omega))
  replace K := K.wr W8 (Or.inl (List.mem_of_getElem? (i := 0) rfl))
  replace N := Fr.snoc X8 N (by omega)
  clear st8 W8 X7 e7
  show own_WP p e below _ T8 (mkF m 36 _ [])
  refine own_go (fun _ => XS.aloadN X8.here hx rfl (hb hby d10_36) rfl rfl) ?_
  show own_WP p e below _ T8 (mkF m 37 #[.val (.ref o0), .val (.int x1)] [(.ref o0)])
  obtain ⟨rr9, hf9, hv⟩ := own_bind hv
  obtain ⟨T9, v9, L9, X9, ⟨N9, K9, Q9⟩, st9⟩ := own_callV X8 C (a := o0) (argsL := []) (rm11 l Z a0 hw n0 h8 (by have q := K.1; omega) (by omega) (by omega) (by omega) (by omega) E_o0 Fo0_4 Fo0_5 Fo0_6 Fo0_7 V_b13 V_b22 V_b31 rr9 hf9) (hw _ (List.mem_of_getElem? (i := 105) rfl)) (hw _ (List.mem_of_getElem? (i := 106) rfl)) (hw _ (List.mem_of_getElem? (i := 108) rfl)) (hw _ (List.mem_of_getElem? (i := 107) rfl)) (hw _ (List.mem_of_getElem? (i := 92) rfl)) (hw _ (List.mem_of_getElem? (i := 109) rfl)) (by decide) e8 E_o0 (W := 0) (pc := 37) (Ls := #[.val (.ref o0), .val (.int x1)]) rfl (lenOf pd11 rfl) (rest := []) (stk := [(.ref o0)]) rfl (Nat.le_of_ble_eq_true rfl) (hb hby d10_37) (by decide) (by decide) (by decide) (by decide)
  replace N := Fr.app N N9
  replace E_o0 := E_o0.keep K9
  have nq : o0 ∉ ([b13, b22, b31] : List Addr) := (ninS (own_ne (by omega)) (ninS (own_ne (by omega)) (ninS (own_ne (by omega)) nin0)))
  replace Fo0_4 := Fo0_4.keep K9 nq
  replace Fo0_5 := Fo0_5.keep K9 nq
  replace Fo0_6 := Fo0_6.keep K9 nq
  replace Fo0_7 := Fo0_7.keep K9 nq
  clear nq
  clear V_b13
  clear V_b22
  clear V_b31
  obtain ⟨rfl, V_b13, V_b22, V_b31⟩ := Q9
  replace K := K.trans K9 (allS (Or.inr (by omega)) (allS (Or.inr (by omega)) (allS (Or.inr (by omega)) all0)))
  refine own_go st9 ?_
  clear st9 N9 K9 hf9 X8 e8
  show own_WP p e below _ T9 (mkF m 40 #[.val (.ref o0), .val (.int x1)] [])
  obtain rfl := Option.some.inj hv
  exact own_retV X9 C (hb hby d10_40) (hP _ _ _ N K ⟨rfl, E_o0⟩) (by decide) (by decide)
theorem ef10 (m : MethodId) (o0 : Nat) (x1 : Int32) : entryFrame m #[(.ref o0), (.int x1)] 2 = (mkF m 0 #[.val (.ref o0), .val (.int x1)] []) := by first | (simp [entryFrame, mkF, argsToLocals, Value.category]; done) | rfl
theorem pd10 : parseMethodDescriptor "(I)V" = some ⟨[.int], none⟩ := by decide +kernel
theorem pn10 : plainFor (⟨"com/example/gridfare/gridfare/engine/LoweringTree", "<init>", "(I)V"⟩ : MethodName) = true := plainFor_of_name (by first | (simp [plainName, overriddenIn]; done) | decide +kernel)
theorem rm10 (l : Launch) (Z : State) (a0 : Array Value) (hw : ∀ d ∈ tables_1, d.before a0 Z = true) (n0 : Nat) (h0 : Heap) (Z0 : n0 ≤ h0.size) {o0 : Nat} {n : Int32}  (g_o0 : n0 ≤ o0) (E_o0 : Exa Z h0 o0 "com/example/gridfare/gridfare/engine/LoweringTree") (Fo0_4 : Fld Z h0 o0 "com/example/gridfare/gridfare/engine/LoweringTree" "root" "I" (.int n)) (Fo0_5 : Fld Z h0 o0 "com/example/gridfare/gridfare/engine/LoweringTree" "following" "[I" .null) (Fo0_6 : Fld Z h0 o0 "com/example/gridfare/gridfare/engine/LoweringTree" "preceding" "[I" .null) (Fo0_7 : Fld Z h0 o0 "com/example/gridfare/gridfare/engine/LoweringTree" "depth" "[I" .null) (x1 : Int32)  (rr : Unit) (hf : f10_0 x1 = some rr) :
    own_Met l Z (⟨"com/example/gridfare/gridfare/engine/LoweringTree", "<init>", "(I)V"⟩ : MethodName) prog_39_method_1_code 2 none [] rmR10 #[(.ref o0), (.int x1)] h0 (fun v h L => Fr n0 L ∧ Keep h0 h [o0] ∧ E10 Z h0 o0 n rr v h) := by
  refine own_body pn10 ?_
  intro p e s m below meth c s₁ C X e0
  exact own_cast (ef10 m o0 x1) (b10_0 hw C Z0 rr (fun v h L a b c => ⟨a, b, c⟩) X e0 (Fr.nil n0) (Keep.refl h0 [o0]) g_o0 E_o0 Fo0_4 Fo0_5 Fo0_6 Fo0_7 x1 hf)
theorem d3_0 : decode prog_42_method_1_code 0 = .ok (.aload_n 0, 1) := by decide +kernel
theorem d3_1 : decode prog_42_method_1_code 1 = .ok (.invokespecial 1, 3) := by decide +kernel
theorem d3_4 : decode prog_42_method_1_code 4 = .ok (.aload_n 0, 1) := by decide +kernel
theorem d3_5 : decode prog_42_method_1_code 5 = .ok (.iload_n 1, 1) := by decide +kernel
theorem d3_6 : decode prog_42_method_1_code 6 = .ok (.putfield 7, 3) := by decide +kernel
theorem d3_9 : decode prog_42_method_1_code 9 = .ok (.aload_n 0, 1) := by decide +kernel
theorem d3_10 : decode prog_42_method_1_code 10 = .ok (.iload_n 1, 1) := by decide +kernel
theorem d3_11 : decode prog_42_method_1_code 11 = .ok (.i2l, 1) := by decide +kernel
theorem d3_12 : decode prog_42_method_1_code 12 = .ok (.lconst 1, 1) := by decide +kernel
theorem d3_13 : decode prog_42_method_1_code 13 = .ok (.ladd, 1) := by decide +kernel
theorem d3_14 : decode prog_42_method_1_code 14 = .ok (.putfield 13, 3) := by decide +kernel
theorem d3_17 : decode prog_42_method_1_code 17 = .ok (.iload_n 2, 1) := by decide +kernel
theorem d3_18 : decode prog_42_method_1_code 18 = .ok (.iconst 2, 1) := by decide +kernel
theorem d3_19 : decode prog_42_method_1_code 19 = .ok (.invokestatic 17, 3) := by decide +kernel
theorem d3_22 : decode prog_42_method_1_code 22 = .ok (.istore 7, 2) := by decide +kernel
theorem d3_24 : decode prog_42_method_1_code 24 = .ok (.aload_n 0, 1) := by decide +kernel
theorem d3_25 : decode prog_42_method_1_code 25 = .ok (.iload_n 1, 1) := by decide +kernel
theorem d3_26 : decode prog_42_method_1_code 26 = .ok (.iconst 1, 1) := by decide +kernel
theorem d3_27 : decode prog_42_method_1_code 27 = .ok (.iadd, 1) := by decide +kernel
theorem d3_28 : decode prog_42_method_1_code 28 = .ok (.newarray .int, 2) := by decide +kernel
theorem d3_30 : decode prog_42_method_1_code 30 = .ok (.putfield 23, 3) := by decide +kernel
theorem d3_33 : decode prog_42_method_1_code 33 = .ok (.aload_n 0, 1) := by decide +kernel
theorem d3_34 : decode prog_42_method_1_code 34 = .ok (.iload_n 2, 1) := by decide +kernel
theorem d3_35 : decode prog_42_method_1_code 35 = .ok (.newarray .int, 2) := by decide +kernel
theorem d3_37 : decode prog_42_method_1_code 37 = .ok (.putfield 27, 3) := by decide +kernel
theorem d3_40 : decode prog_42_method_1_code 40 = .ok (.aload_n 0, 1) := by decide +kernel
theorem d3_41 : decode prog_42_method_1_code 41 = .ok (.iload 7, 2) := by decide +kernel
theorem d3_43 : decode prog_42_method_1_code 43 = .ok (.newarray .int, 2) := by decide +kernel
theorem d3_45 : decode prog_42_method_1_code 45 = .ok (.putfield 30, 3) := by decide +kernel
theorem d3_48 : decode prog_42_method_1_code 48 = .ok (.aload_n 0, 1) := by decide +kernel
theorem d3_49 : decode prog_42_method_1_code 49 = .ok (.iload 7, 2) := by decide +kernel
theorem d3_51 : decode prog_42_method_1_code 51 = .ok (.newarray .int, 2) := by decide +kernel
theorem d3_53 : decode prog_42_method_1_code 53 = .ok (.putfield 33, 3) := by decide +kernel
theorem d3_56 : decode prog_42_method_1_code 56 = .ok (.aload_n 0, 1) := by decide +kernel
theorem d3_57 : decode prog_42_method_1_code 57 = .ok (.iload 7, 2) := by decide +kernel
theorem d3_59 : decode prog_42_method_1_code 59 = .ok (.newarray .int, 2) := by decide +kernel
theorem d3_61 : decode prog_42_method_1_code 61 = .ok (.putfield 36, 3) := by decide +kernel
theorem d3_64 : decode prog_42_method_1_code 64 = .ok (.aload_n 0, 1) := by decide +kernel
theorem d3_65 : decode prog_42_method_1_code 65 = .ok (.iload 7, 2) := by decide +kernel
theorem d3_67 : decode prog_42_method_1_code 67 = .ok (.newarray .long, 2) := by decide +kernel
theorem d3_69 : decode prog_42_method_1_code 69 = .ok (.putfield 39, 3) := by decide +kernel
theorem d3_72 : decode prog_42_method_1_code 72 = .ok (.iconst 0, 1) := by decide +kernel
theorem d3_73 : decode prog_42_method_1_code 73 = .ok (.istore 8, 2) := by decide +kernel
theorem d3_75 : decode prog_42_method_1_code 75 = .ok (.iload 8, 2) := by decide +kernel
theorem d3_77 : decode prog_42_method_1_code 77 = .ok (.iload_n 2, 1) := by decide +kernel
theorem d3_78 : decode prog_42_method_1_code 78 = .ok (.if_icmp .ge 40, 3) := by decide +kernel
theorem d3_81 : decode prog_42_method_1_code 81 = .ok (.aload_n 0, 1) := by decide +kernel
theorem d3_82 : decode prog_42_method_1_code 82 = .ok (.getfield 23, 3) := by decide +kernel
theorem d3_85 : decode prog_42_method_1_code 85 = .ok (.aload_n 3, 1) := by decide +kernel
theorem d3_86 : decode prog_42_method_1_code 86 = .ok (.iload 8, 2) := by decide +kernel
theorem d3_88 : decode prog_42_method_1_code 88 = .ok (.iaload, 1) := by decide +kernel
theorem d3_89 : decode prog_42_method_1_code 89 = .ok (.iconst 1, 1) := by decide +kernel
theorem d3_90 : decode prog_42_method_1_code 90 = .ok (.iadd, 1) := by decide +kernel
theorem d3_91 : decode prog_42_method_1_code 91 = .ok (.dup2, 1) := by decide +kernel
theorem d3_92 : decode prog_42_method_1_code 92 = .ok (.iaload, 1) := by decide +kernel
theorem d3_93 : decode prog_42_method_1_code 93 = .ok (.iconst 1, 1) := by decide +kernel
theorem d3_94 : decode prog_42_method_1_code 94 = .ok (.iadd, 1) := by decide +kernel
theorem d3_95 : decode prog_42_method_1_code 95 = .ok (.iastore, 1) := by decide +kernel
theorem d3_96 : decode prog_42_method_1_code 96 = .ok (.aload_n 0, 1) := by decide +kernel
theorem d3_97 : decode prog_42_method_1_code 97 = .ok (.getfield 23, 3) := by decide +kernel
theorem d3_100 : decode prog_42_method_1_code 100 = .ok (.aload 4, 2) := by decide +kernel
theorem d3_102 : decode prog_42_method_1_code 102 = .ok (.iload 8, 2) := by decide +kernel
theorem d3_104 : decode prog_42_method_1_code 104 = .ok (.iaload, 1) := by decide +kernel
theorem d3_105 : decode prog_42_method_1_code 105 = .ok (.iconst 1, 1) := by decide +kernel
theorem d3_106 : decode prog_42_method_1_code 106 = .ok (.iadd, 1) := by decide +kernel
theorem d3_107 : decode prog_42_method_1_code 107 = .ok (.dup2, 1) := by decide +kernel
theorem d3_108 : decode prog_42_method_1_code 108 = .ok (.iaload, 1) := by decide +kernel
theorem d3_109 : decode prog_42_method_1_code 109 = .ok (.iconst 1, 1) := by decide +kernel
theorem d3_110 : decode prog_42_method_1_code 110 = .ok (.iadd, 1) := by decide +kernel
theorem d3_111 : decode prog_42_method_1_code 111 = .ok (.iastore, 1) := by decide +kernel
theorem d3_112 : decode prog_42_method_1_code 112 = .ok (.iinc 8 1, 3) := by decide +kernel
theorem d3_115 : decode prog_42_method_1_code 115 = .ok (.goto (-40), 3) := by decide +kernel
theorem d3_118 : decode prog_42_method_1_code 118 = .ok (.iconst 0, 1) := by decide +kernel
theorem d3_119 : decode prog_42_method_1_code 119 = .ok (.istore 8, 2) := by decide +kernel
theorem d3_121 : decode prog_42_method_1_code 121 = .ok (.iload 8, 2) := by decide +kernel
theorem d3_123 : decode prog_42_method_1_code 123 = .ok (.iload_n 1, 1) := by decide +kernel
theorem d3_124 : decode prog_42_method_1_code 124 = .ok (.if_icmp .ge 28, 3) := by decide +kernel
theorem d3_127 : decode prog_42_method_1_code 127 = .ok (.aload_n 0, 1) := by decide +kernel
theorem d3_128 : decode prog_42_method_1_code 128 = .ok (.getfield 23, 3) := by decide +kernel
theorem d3_131 : decode prog_42_method_1_code 131 = .ok (.iload 8, 2) := by decide +kernel
theorem d3_133 : decode prog_42_method_1_code 133 = .ok (.iconst 1, 1) := by decide +kernel
theorem d3_134 : decode prog_42_method_1_code 134 = .ok (.iadd, 1) := by decide +kernel
theorem d3_135 : decode prog_42_method_1_code 135 = .ok (.dup2, 1) := by decide +kernel
theorem d3_136 : decode prog_42_method_1_code 136 = .ok (.iaload, 1) := by decide +kernel
theorem d3_137 : decode prog_42_method_1_code 137 = .ok (.aload_n 0, 1) := by decide +kernel
theorem d3_138 : decode prog_42_method_1_code 138 = .ok (.getfield 23, 3) := by decide +kernel
theorem d3_141 : decode prog_42_method_1_code 141 = .ok (.iload 8, 2) := by decide +kernel
theorem d3_143 : decode prog_42_method_1_code 143 = .ok (.iaload, 1) := by decide +kernel
theorem d3_144 : decode prog_42_method_1_code 144 = .ok (.iadd, 1) := by decide +kernel
theorem d3_145 : decode prog_42_method_1_code 145 = .ok (.iastore, 1) := by decide +kernel
theorem d3_146 : decode prog_42_method_1_code 146 = .ok (.iinc 8 1, 3) := by decide +kernel
theorem d3_149 : decode prog_42_method_1_code 149 = .ok (.goto (-28), 3) := by decide +kernel
theorem d3_152 : decode prog_42_method_1_code 152 = .ok (.aload_n 0, 1) := by decide +kernel
theorem d3_153 : decode prog_42_method_1_code 153 = .ok (.getfield 23, 3) := by decide +kernel
theorem d3_156 : decode prog_42_method_1_code 156 = .ok (.iload_n 1, 1) := by decide +kernel
theorem d3_157 : decode prog_42_method_1_code 157 = .ok (.invokestatic 43, 3) := by decide +kernel
theorem d3_160 : decode prog_42_method_1_code 160 = .ok (.astore 8, 2) := by decide +kernel
theorem d3_162 : decode prog_42_method_1_code 162 = .ok (.iconst 0, 1) := by decide +kernel
theorem d3_163 : decode prog_42_method_1_code 163 = .ok (.istore 9, 2) := by decide +kernel
theorem d3_165 : decode prog_42_method_1_code 165 = .ok (.iload 9, 2) := by decide +kernel
theorem d3_167 : decode prog_42_method_1_code 167 = .ok (.iload_n 2, 1) := by decide +kernel
theorem d3_168 : decode prog_42_method_1_code 168 = .ok (.if_icmp .ge 125, 3) := by decide +kernel
theorem d3_171 : decode prog_42_method_1_code 171 = .ok (.aload 8, 2) := by decide +kernel
theorem d3_173 : decode prog_42_method_1_code 173 = .ok (.aload_n 3, 1) := by decide +kernel
theorem d3_174 : decode prog_42_method_1_code 174 = .ok (.iload 9, 2) := by decide +kernel
theorem d3_176 : decode prog_42_method_1_code 176 = .ok (.iaload, 1) := by decide +kernel
theorem d3_177 : decode prog_42_method_1_code 177 = .ok (.dup2, 1) := by decide +kernel
theorem d3_178 : decode prog_42_method_1_code 178 = .ok (.iaload, 1) := by decide +kernel
theorem d3_179 : decode prog_42_method_1_code 179 = .ok (.dup_x2, 1) := by decide +kernel
theorem d3_180 : decode prog_42_method_1_code 180 = .ok (.iconst 1, 1) := by decide +kernel
theorem d3_181 : decode prog_42_method_1_code 181 = .ok (.iadd, 1) := by decide +kernel
theorem d3_182 : decode prog_42_method_1_code 182 = .ok (.iastore, 1) := by decide +kernel
theorem d3_183 : decode prog_42_method_1_code 183 = .ok (.istore 10, 2) := by decide +kernel
theorem d3_185 : decode prog_42_method_1_code 185 = .ok (.aload 8, 2) := by decide +kernel
theorem d3_187 : decode prog_42_method_1_code 187 = .ok (.aload 4, 2) := by decide +kernel
theorem d3_189 : decode prog_42_method_1_code 189 = .ok (.iload 9, 2) := by decide +kernel
theorem d3_191 : decode prog_42_method_1_code 191 = .ok (.iaload, 1) := by decide +kernel
theorem d3_192 : decode prog_42_method_1_code 192 = .ok (.dup2, 1) := by decide +kernel
theorem d3_193 : decode prog_42_method_1_code 193 = .ok (.iaload, 1) := by decide +kernel
theorem d3_194 : decode prog_42_method_1_code 194 = .ok (.dup_x2, 1) := by decide +kernel
theorem d3_195 : decode prog_42_method_1_code 195 = .ok (.iconst 1, 1) := by decide +kernel
theorem d3_196 : decode prog_42_method_1_code 196 = .ok (.iadd, 1) := by decide +kernel
theorem d3_197 : decode prog_42_method_1_code 197 = .ok (.iastore, 1) := by decide +kernel
theorem d3_198 : decode prog_42_method_1_code 198 = .ok (.istore 11, 2) := by decide +kernel
theorem d3_200 : decode prog_42_method_1_code 200 = .ok (.aload_n 0, 1) := by decide +kernel
theorem d3_201 : decode prog_42_method_1_code 201 = .ok (.getfield 27, 3) := by decide +kernel
theorem d3_204 : decode prog_42_method_1_code 204 = .ok (.iload 9, 2) := by decide +kernel
theorem d3_206 : decode prog_42_method_1_code 206 = .ok (.iload 10, 2) := by decide +kernel
theorem d3_208 : decode prog_42_method_1_code 208 = .ok (.iastore, 1) := by decide +kernel
theorem d3_209 : decode prog_42_method_1_code 209 = .ok (.aload_n 0, 1) := by decide +kernel
theorem d3_210 : decode prog_42_method_1_code 210 = .ok (.getfield 30, 3) := by decide +kernel
theorem d3_213 : decode prog_42_method_1_code 213 = .ok (.iload 10, 2) := by decide +kernel
theorem d3_215 : decode prog_42_method_1_code 215 = .ok (.aload 4, 2) := by decide +kernel
theorem d3_217 : decode prog_42_method_1_code 217 = .ok (.iload 9, 2) := by decide +kernel
theorem d3_219 : decode prog_42_method_1_code 219 = .ok (.iaload, 1) := by decide +kernel
theorem d3_220 : decode prog_42_method_1_code 220 = .ok (.iastore, 1) := by decide +kernel
theorem d3_221 : decode prog_42_method_1_code 221 = .ok (.aload_n 0, 1) := by decide +kernel
theorem d3_222 : decode prog_42_method_1_code 222 = .ok (.getfield 30, 3) := by decide +kernel
theorem d3_225 : decode prog_42_method_1_code 225 = .ok (.iload 11, 2) := by decide +kernel
theorem d3_227 : decode prog_42_method_1_code 227 = .ok (.aload_n 3, 1) := by decide +kernel
theorem d3_228 : decode prog_42_method_1_code 228 = .ok (.iload 9, 2) := by decide +kernel
theorem d3_230 : decode prog_42_method_1_code 230 = .ok (.iaload, 1) := by decide +kernel
theorem d3_231 : decode prog_42_method_1_code 231 = .ok (.iastore, 1) := by decide +kernel
theorem d3_232 : decode prog_42_method_1_code 232 = .ok (.aload_n 0, 1) := by decide +kernel
theorem d3_233 : decode prog_42_method_1_code 233 = .ok (.getfield 33, 3) := by decide +kernel
theorem d3_236 : decode prog_42_method_1_code 236 = .ok (.iload 10, 2) := by decide +kernel
theorem d3_238 : decode prog_42_method_1_code 238 = .ok (.iload 11, 2) := by decide +kernel
theorem d3_240 : decode prog_42_method_1_code 240 = .ok (.iastore, 1) := by decide +kernel
theorem d3_241 : decode prog_42_method_1_code 241 = .ok (.aload_n 0, 1) := by decide +kernel
theorem d3_242 : decode prog_42_method_1_code 242 = .ok (.getfield 33, 3) := by decide +kernel
theorem d3_245 : decode prog_42_method_1_code 245 = .ok (.iload 11, 2) := by decide +kernel
theorem d3_247 : decode prog_42_method_1_code 247 = .ok (.iload 10, 2) := by decide +kernel
theorem d3_249 : decode prog_42_method_1_code 249 = .ok (.iastore, 1) := by decide +kernel
theorem d3_250 : decode prog_42_method_1_code 250 = .ok (.aload_n 0, 1) := by decide +kernel
theorem d3_251 : decode prog_42_method_1_code 251 = .ok (.getfield 36, 3) := by decide +kernel
theorem d3_254 : decode prog_42_method_1_code 254 = .ok (.iload 10, 2) := by decide +kernel
theorem d3_256 : decode prog_42_method_1_code 256 = .ok (.aload 5, 2) := by decide +kernel
theorem d3_258 : decode prog_42_method_1_code 258 = .ok (.iload 9, 2) := by decide +kernel
theorem d3_260 : decode prog_42_method_1_code 260 = .ok (.iaload, 1) := by decide +kernel
theorem d3_261 : decode prog_42_method_1_code 261 = .ok (.iastore, 1) := by decide +kernel
theorem d3_262 : decode prog_42_method_1_code 262 = .ok (.aload_n 0, 1) := by decide +kernel
theorem d3_263 : decode prog_42_method_1_code 263 = .ok (.getfield 39, 3) := by decide +kernel
theorem d3_266 : decode prog_42_method_1_code 266 = .ok (.iload 10, 2) := by decide +kernel
theorem d3_268 : decode prog_42_method_1_code 268 = .ok (.aload 6, 2) := by decide +kernel
theorem d3_270 : decode prog_42_method_1_code 270 = .ok (.iload 9, 2) := by decide +kernel
theorem d3_272 : decode prog_42_method_1_code 272 = .ok (.laload, 1) := by decide +kernel
theorem d3_273 : decode prog_42_method_1_code 273 = .ok (.lastore, 1) := by decide +kernel
theorem d3_274 : decode prog_42_method_1_code 274 = .ok (.aload_n 0, 1) := by decide +kernel
theorem d3_275 : decode prog_42_method_1_code 275 = .ok (.getfield 39, 3) := by decide +kernel
theorem d3_278 : decode prog_42_method_1_code 278 = .ok (.iload 11, 2) := by decide +kernel
theorem d3_280 : decode prog_42_method_1_code 280 = .ok (.aload 6, 2) := by decide +kernel
theorem d3_282 : decode prog_42_method_1_code 282 = .ok (.iload 9, 2) := by decide +kernel
theorem d3_284 : decode prog_42_method_1_code 284 = .ok (.laload, 1) := by decide +kernel
theorem d3_285 : decode prog_42_method_1_code 285 = .ok (.lneg, 1) := by decide +kernel
theorem d3_286 : decode prog_42_method_1_code 286 = .ok (.lastore, 1) := by decide +kernel
theorem d3_287 : decode prog_42_method_1_code 287 = .ok (.iinc 9 1, 3) := by decide +kernel
theorem d3_290 : decode prog_42_method_1_code 290 = .ok (.goto (-125), 3) := by decide +kernel
theorem d3_293 : decode prog_42_method_1_code 293 = .ok (.aload_n 0, 1) := by decide +kernel
theorem d3_294 : decode prog_42_method_1_code 294 = .ok (.iload_n 1, 1) := by decide +kernel
theorem d3_295 : decode prog_42_method_1_code 295 = .ok (.newarray .int, 2) := by decide +kernel
theorem d3_297 : decode prog_42_method_1_code 297 = .ok (.putfield 49, 3) := by decide +kernel
theorem d3_300 : decode prog_42_method_1_code 300 = .ok (.aload_n 0, 1) := by decide +kernel
theorem d3_301 : decode prog_42_method_1_code 301 = .ok (.iload_n 1, 1) := by decide +kernel
theorem d3_302 : decode prog_42_method_1_code 302 = .ok (.newarray .int, 2) := by decide +kernel
theorem d3_304 : decode prog_42_method_1_code 304 = .ok (.putfield 52, 3) := by decide +kernel
theorem d3_307 : decode prog_42_method_1_code 307 = .ok (.aload_n 0, 1) := by decide +kernel
theorem d3_308 : decode prog_42_method_1_code 308 = .ok (.iload_n 1, 1) := by decide +kernel
theorem d3_309 : decode prog_42_method_1_code 309 = .ok (.newarray .int, 2) := by decide +kernel
theorem d3_311 : decode prog_42_method_1_code 311 = .ok (.putfield 55, 3) := by decide +kernel
theorem d3_314 : decode prog_42_method_1_code 314 = .ok (.aload_n 0, 1) := by decide +kernel
theorem d3_315 : decode prog_42_method_1_code 315 = .ok (.iload_n 1, 1) := by decide +kernel
theorem d3_316 : decode prog_42_method_1_code 316 = .ok (.newarray .long, 2) := by decide +kernel
theorem d3_318 : decode prog_42_method_1_code 318 = .ok (.putfield 58, 3) := by decide +kernel
theorem d3_321 : decode prog_42_method_1_code 321 = .ok (.aload_n 0, 1) := by decide +kernel
theorem d3_322 : decode prog_42_method_1_code 322 = .ok (.iload_n 1, 1) := by decide +kernel
theorem d3_323 : decode prog_42_method_1_code 323 = .ok (.newarray .long, 2) := by decide +kernel
theorem d3_325 : decode prog_42_method_1_code 325 = .ok (.putfield 61, 3) := by decide +kernel
theorem d3_328 : decode prog_42_method_1_code 328 = .ok (.aload_n 0, 1) := by decide +kernel
theorem d3_329 : decode prog_42_method_1_code 329 = .ok (.iload_n 1, 1) := by decide +kernel
theorem d3_330 : decode prog_42_method_1_code 330 = .ok (.newarray .int, 2) := by decide +kernel
theorem d3_332 : decode prog_42_method_1_code 332 = .ok (.putfield 64, 3) := by decide +kernel
theorem d3_335 : decode prog_42_method_1_code 335 = .ok (.aload_n 0, 1) := by decide +kernel
theorem d3_336 : decode prog_42_method_1_code 336 = .ok (.iload_n 1, 1) := by decide +kernel
theorem d3_337 : decode prog_42_method_1_code 337 = .ok (.newarray .boolean, 2) := by decide +kernel
theorem d3_339 : decode prog_42_method_1_code 339 = .ok (.putfield 67, 3) := by decide +kernel
theorem d3_342 : decode prog_42_method_1_code 342 = .ok (.aload_n 0, 1) := by decide +kernel
theorem d3_343 : decode prog_42_method_1_code 343 = .ok (.new 71, 3) := by decide +kernel
theorem d3_346 : decode prog_42_method_1_code 346 = .ok (.dup, 1) := by decide +kernel
theorem d3_347 : decode prog_42_method_1_code 347 = .ok (.iload_n 1, 1) := by decide +kernel
theorem d3_348 : decode prog_42_method_1_code 348 = .ok (.iconst 4, 1) := by decide +kernel
theorem d3_349 : decode prog_42_method_1_code 349 = .ok (.iload_n 1, 1) := by decide +kernel
theorem d3_350 : decode prog_42_method_1_code 350 = .ok (.imul, 1) := by decide +kernel
theorem d3_351 : decode prog_42_method_1_code 351 = .ok (.invokespecial 73, 3) := by decide +kernel
theorem d3_354 : decode prog_42_method_1_code 354 = .ok (.putfield 76, 3) := by decide +kernel
theorem d3_357 : decode prog_42_method_1_code 357 = .ok (.aload_n 0, 1) := by decide +kernel
theorem d3_358 : decode prog_42_method_1_code 358 = .ok (.iload_n 1, 1) := by decide +kernel
theorem d3_359 : decode prog_42_method_1_code 359 = .ok (.newarray .boolean, 2) := by decide +kernel
theorem d3_361 : decode prog_42_method_1_code 361 = .ok (.putfield 80, 3) := by decide +kernel
theorem d3_364 : decode prog_42_method_1_code 364 = .ok (.aload_n 0, 1) := by decide +kernel
theorem d3_365 : decode prog_42_method_1_code 365 = .ok (.iload_n 1, 1) := by decide +kernel
theorem d3_366 : decode prog_42_method_1_code 366 = .ok (.newarray .long, 2) := by decide +kernel
theorem d3_368 : decode prog_42_method_1_code 368 = .ok (.putfield 83, 3) := by decide +kernel
theorem d3_371 : decode prog_42_method_1_code 371 = .ok (.aload_n 0, 1) := by decide +kernel
theorem d3_372 : decode prog_42_method_1_code 372 = .ok (.new 86, 3) := by decide +kernel
theorem d3_375 : decode prog_42_method_1_code 375 = .ok (.dup, 1) := by decide +kernel
theorem d3_376 : decode prog_42_method_1_code 376 = .ok (.iload_n 1, 1) := by decide +kernel
theorem d3_377 : decode prog_42_method_1_code 377 = .ok (.invokespecial 88, 3) := by decide +kernel
theorem d3_380 : decode prog_42_method_1_code 380 = .ok (.putfield 91, 3) := by decide +kernel
theorem d3_383 : decode prog_42_method_1_code 383 = .ok (.aload_n 0, 1) := by decide +kernel
theorem d3_384 : decode prog_42_method_1_code 384 = .ok (.iload_n 1, 1) := by decide +kernel
theorem d3_385 : decode prog_42_method_1_code 385 = .ok (.newarray .int, 2) := by decide +kernel
theorem d3_387 : decode prog_42_method_1_code 387 = .ok (.putfield 95, 3) := by decide +kernel
theorem d3_390 : decode prog_42_method_1_code 390 = .ok (.return_, 1) := by decide +kernel
def rmR3 : Room := { frames := 2, cells := 26, slots := 118, locals := 32 }
def E3 (Z : State) (h0 : Heap) (o3 : Nat) (o4 : Nat) (o5 : Nat) (o0 : Nat) (o6 : Nat) (ta : List Int32) (he : List Int32) (ca : List Int32) (s_scale : Int64) (co : List Int64) (rr : Int32 × (List Int32) × (List Int32) × (List Int32) × (List Int32) × (List Int32) × (List Int32) × (List Int32) × (List Int32) × (List Int32)) (v : Option Value) (h : Heap) : Prop := ∃ b28 b35 b43 b51 b59 b295 b302 b309 b385, h0.size ≤ b28 ∧ b28 < b35 ∧ b35 < b43 ∧ b43 < b51 ∧ b51 < b59 ∧ b59 < b295 ∧ b295 < b302 ∧ b302 < b309 ∧ b309 < b385 ∧ v = none ∧ Exa Z h o0 "com/example/gridfare/gridfare/engine/ResidualNetwork" ∧ Fld Z h o0 "com/example/gridfare/gridfare/engine/ResidualNetwork" "nodes" "I" (.int (rr.1)) ∧ Fld Z h o0 "com/example/gridfare/gridfare/engine/ResidualNetwork" "firstArc" "[I" (.ref b28) ∧ Fld Z h o0 "com/example/gridfare/gridfare/engine/ResidualNetwork" "added" "[I" (.ref b35) ∧ Fld Z h o0 "com/example/gridfare/gridfare/engine/ResidualNetwork" "head" "[I" (.ref b43) ∧ Fld Z h o0 "com/example/gridfare/gridfare/engine/ResidualNetwork" "twin" "[I" (.ref b51) ∧ Fld Z h o0 "com/example/gridfare/gridfare/engine/ResidualNetwork" "residual" "[I" (.ref b59) ∧ Fld Z h o0 "com/example/gridfare/gridfare/engine/ResidualNetwork" "level" "[I" (.ref b295) ∧ Fld Z h o0 "com/example/gridfare/gridfare/engine/ResidualNetwork" "levelled" "[I" (.ref b302) ∧ Fld Z h o0 "com/example/gridfare/gridfare/engine/ResidualNetwork" "arcInto" "[I" (.ref b309) ∧ Fld Z h o0 "com/example/gridfare/gridfare/engine/ResidualNetwork" "currentArc" "[I" (.ref b385) ∧ own_AI Z h b28 .int (rr.2.1) ∧ own_AI Z h b35 .int (rr.2.2.1) ∧ own_AI Z h b43 .int (rr.2.2.2.1) ∧ own_AI Z h b51 .int (rr.2.2.2.2.1) ∧ own_AI Z h b59 .int (rr.2.2.2.2.2.1) ∧ own_AI Z h b295 .int (rr.2.2.2.2.2.2.1) ∧ own_AI Z h b302 .int (rr.2.2.2.2.2.2.2.1) ∧ own_AI Z h b309 .int (rr.2.2.2.2.2.2.2.2.1) ∧ own_AI Z h b385 .int (rr.2.2.2.2.2.2.2.2.2)
theorem ly8 {a0 : Array Value} {Z : State} (hw : ∀ d ∈ tables_1, d.before a0 Z = true) : Laid Z a0 "com/example/gridfare/gridfare/engine/ResidualNetwork" "com/example/gridfare/gridfare/engine/ResidualNetwork" "scale" "J" := (Or.inr (hw _ (List.mem_of_getElem? (i := 23) rfl)))
theorem ly9 {a0 : Array Value} {Z : State} (hw : ∀ d ∈ tables_1, d.before a0 Z = true) : Laid Z a0 "com/example/gridfare/gridfare/engine/ResidualNetwork" "com/example/gridfare/gridfare/engine/ResidualNetwork" "nodes" "I" := (Or.inr (hw _ (List.mem_of_getElem? (i := 21) rfl)))
theorem pf2 : parseFieldDescriptor "J" = some .long := by decide
theorem ly10 {a0 : Array Value} {Z : State} (hw : ∀ d ∈ tables_1, d.before a0 Z = true) : Laid Z a0 "com/example/gridfare/gridfare/engine/ResidualNetwork" "com/example/gridfare/gridfare/engine/ResidualNetwork" "firstArc" "[I" := (Or.inr (hw _ (List.mem_of_getElem? (i := 29) rfl)))
theorem ly11 {a0 : Array Value} {Z : State} (hw : ∀ d ∈ tables_1, d.before a0 Z = true) : Laid Z a0 "com/example/gridfare/gridfare/engine/ResidualNetwork" "com/example/gridfare/gridfare/engine/ResidualNetwork" "added" "[I" := (Or.inr (hw _ (List.mem_of_getElem? (i := 31) rfl)))
theorem ly12 {a0 : Array Value} {Z : State} (hw : ∀ d ∈ tables_1, d.before a0 Z = true) : Laid Z a0 "com/example/gridfare/gridfare/engine/ResidualNetwork" "com/example/gridfare/gridfare/engine/ResidualNetwork" "head" "[I" := (Or.inr (hw _ (List.mem_of_getElem? (i := 33) rfl)))
theorem ly13 {a0 : Array Value} {Z : State} (hw : ∀ d ∈ tables_1, d.before a0 Z = true) : Laid Z a0 "com/example/gridfare/gridfare/engine/ResidualNetwork" "com/example/gridfare/gridfare/engine/ResidualNetwork" "twin" "[I" := (Or.inr (hw _ (List.mem_of_getElem? (i := 35) rfl)))
theorem ly14 {a0 : Array Value} {Z : State} (hw : ∀ d ∈ tables_1, d.before a0 Z = true) : Laid Z a0 "com/example/gridfare/gridfare/engine/ResidualNetwork" "com/example/gridfare/gridfare/engine/ResidualNetwork" "residual" "[I" := (Or.inr (hw _ (List.mem_of_getElem? (i := 37) rfl)))
theorem ly15 {a0 : Array Value} {Z : State} (hw : ∀ d ∈ tables_1, d.before a0 Z = true) : Laid Z a0 "com/example/gridfare/gridfare/engine/ResidualNetwork" "com/example/gridfare/gridfare/engine/ResidualNetwork" "cost" "[J" := (Or.inr (hw _ (List.mem_of_getElem? (i := 39) rfl)))
theorem pf3 : parseFieldDescriptor "[J" = some (.array .long) := by decide
theorem ly16 {a0 : Array Value} {Z : State} (hw : ∀ d ∈ tables_1, d.before a0 Z = true) : Laid Z a0 "com/example/gridfare/gridfare/engine/ResidualNetwork" "com/example/gridfare/gridfare/engine/ResidualNetwork" "level" "[I" := (Or.inr (hw _ (List.mem_of_getElem? (i := 52) rfl)))
theorem ly17 {a0 : Array Value} {Z : State} (hw : ∀ d ∈ tables_1, d.before a0 Z = true) : Laid Z a0 "com/example/gridfare/gridfare/engine/ResidualNetwork" "com/example/gridfare/gridfare/engine/ResidualNetwork" "levelled" "[I" := (Or.inr (hw _ (List.mem_of_getElem? (i := 54) rfl)))
theorem ly18 {a0 : Array Value} {Z : State} (hw : ∀ d ∈ tables_1, d.before a0 Z = true) : Laid Z a0 "com/example/gridfare/gridfare/engine/ResidualNetwork" "com/example/gridfare/gridfare/engine/ResidualNetwork" "arcInto" "[I" := (Or.inr (hw _ (List.mem_of_getElem? (i := 56) rfl)))
theorem ly19 {a0 : Array Value} {Z : State} (hw : ∀ d ∈ tables_1, d.before a0 Z = true) : Laid Z a0 "com/example/gridfare/gridfare/engine/ResidualNetwork" "com/example/gridfare/gridfare/engine/ResidualNetwork" "price" "[J" := (Or.inr (hw _ (List.mem_of_getElem? (i := 58) rfl)))
theorem ly20 {a0 : Array Value} {Z : State} (hw : ∀ d ∈ tables_1, d.before a0 Z = true) : Laid Z a0 "com/example/gridfare/gridfare/engine/ResidualNetwork" "com/example/gridfare/gridfare/engine/ResidualNetwork" "excess" "[J" := (Or.inr (hw _ (List.mem_of_getElem? (i := 60) rfl)))
theorem ly21 {a0 : Array Value} {Z : State} (hw : ∀ d ∈ tables_1, d.before a0 Z = true) : Laid Z a0 "com/example/gridfare/gridfare/engine/ResidualNetwork" "com/example/gridfare/gridfare/engine/ResidualNetwork" "active" "[I" := (Or.inr (hw _ (List.mem_of_getElem? (i := 62) rfl)))
theorem ly22 {a0 : Array Value} {Z : State} (hw : ∀ d ∈ tables_1, d.before a0 Z = true) : Laid Z a0 "com/example/gridfare/gridfare/engine/ResidualNetwork" "com/example/gridfare/gridfare/engine/ResidualNetwork" "queued" "[Z" := (Or.inr (hw _ (List.mem_of_getElem? (i := 65) rfl)))
theorem pf4 : parseFieldDescriptor "[Z" = some (.array .boolean) := by decide
theorem ly23 {a0 : Array Value} {Z : State} (hw : ∀ d ∈ tables_1, d.before a0 Z = true) : Laid Z a0 "com/example/gridfare/gridfare/engine/ResidualNetwork" "com/example/gridfare/gridfare/engine/ResidualNetwork" "nearestDeficit" "Lcom/example/gridfare/gridfare/engine/BucketQueue;" := (Or.inr (hw _ (List.mem_of_getElem? (i := 85) rfl)))
theorem pf5 : parseFieldDescriptor "Lcom/example/gridfare/gridfare/engine/BucketQueue;" = some (.object "com/example/gridfare/gridfare/engine/BucketQueue") := by decide
theorem ly24 {a0 : Array Value} {Z : State} (hw : ∀ d ∈ tables_1, d.before a0 Z = true) : Laid Z a0 "com/example/gridfare/gridfare/engine/ResidualNetwork" "com/example/gridfare/gridfare/engine/ResidualNetwork" "settled" "[Z" := (Or.inr (hw _ (List.mem_of_getElem? (i := 87) rfl)))
theorem ly25 {a0 : Array Value} {Z : State} (hw : ∀ d ∈ tables_1, d.before a0 Z = true) : Laid Z a0 "com/example/gridfare/gridfare/engine/ResidualNetwork" "com/example/gridfare/gridfare/engine/ResidualNetwork" "potential" "[J" := (Or.inr (hw _ (List.mem_of_getElem? (i := 89) rfl)))
theorem ly26 {a0 : Array Value} {Z : State} (hw : ∀ d ∈ tables_1, d.before a0 Z = true) : Laid Z a0 "com/example/gridfare/gridfare/engine/ResidualNetwork" "com/example/gridfare/gridfare/engine/ResidualNetwork" "lowering" "Lcom/example/gridfare/gridfare/engine/LoweringTree;" := (Or.inr (hw _ (List.mem_of_getElem? (i := 111) rfl)))
theorem pf6 : parseFieldDescriptor "Lcom/example/gridfare/gridfare/engine/LoweringTree;" = some (.object "com/example/gridfare/gridfare/engine/LoweringTree") := by decide
theorem ly27 {a0 : Array Value} {Z : State} (hw : ∀ d ∈ tables_1, d.before a0 Z = true) : Laid Z a0 "com/example/gridfare/gridfare/engine/ResidualNetwork" "com/example/gridfare/gridfare/engine/ResidualNetwork" "currentArc" "[I" := (Or.inr (hw _ (List.mem_of_getElem? (i := 113) rfl)))
def f3_371 (c_o0_nodes : Int32) (v_b28 : List Int32) (v_b35 : List Int32) (v_b43 : List Int32) (v_b51 : List Int32) (v_b59 : List Int32) (v_b295 : List Int32) (v_b302 : List Int32) (v_b309 : List Int32) (x1 : Int32) : Option (Int32 × (List Int32) × (List Int32) × (List Int32) × (List Int32) × (List Int32) × (List Int32) × (List Int32) × (List Int32) × (List Int32)) := ((f10_0 x1).bind fun rr81 => (if x1 < 0 ∨ 3 < x1.toInt then none else (some (c_o0_nodes, v_b28, v_b35, v_b43, v_b51, v_b59, v_b295, v_b302, v_b309, (List.replicate (x1).toNatClampNeg 0)))))
set_option maxRecDepth 65536 in
set_option maxHeartbeats 40000000 in
theorem b3_371 {p : Program} {l : Launch} {e : Env} {s : State} {m : MethodId} {args : Array Value} {below : List Frame} {meth : Method} {c : Code} {Z : State} {a0 : Array Value} {h0 : Heap} {n0 : Nat} {P : Option Value → Heap → List Loc → Prop} (hw : ∀ d ∈ tables_1, d.before a0 Z = true) (C : own_Ctx p s m meth c Z (⟨"com/example/gridfare/gridfare/engine/ResidualNetwork", "<init>", "(II[I[I[I[J)V"⟩ : MethodName) prog_42_method_1_code 12 none) (Z0 : n0 ≤ h0.size) {o3 : Nat} {o4 : Nat} {o5 : Nat} {o0 : Nat} {o6 : Nat} {ta : List Int32} {he : List Int32} {ca : List Int32} {s_scale : Int64} {co : List Int64} (rr : Int32 × (List Int32) × (List Int32) × (List Int32) × (List Int32) × (List Int32) × (List Int32) × (List Int32) × (List Int32) × (List Int32)) (hP : ∀ v h L, Fr n0 L → Keep h0 h [o0] → E3 Z h0 o3 o4 o5 o0 o6 ta he ca s_scale co rr v h → P v h L)
    {T : State} {locs : List Loc} {h : Heap} {b28 : Nat} {b35 : Nat} {b43 : Nat} {b51 : Nat} {b59 : Nat} {b295 : Nat} {b302 : Nat} {b309 : Nat} {c_o0_nodes : Int32} {v_b28 : List Int32} {v_b35 : List Int32} {v_b43 : List Int32} {v_b51 : List Int32} {v_b59 : List Int32} {v_b295 : List Int32} {v_b302 : List Int32} {v_b309 : List Int32} (X : Stand p l e rmR3 s m args below meth c T locs 21 99) (e0 : T.heap = h) (N : Fr n0 locs) (K : Keep h0 h [o0]) (o_o0_b28 : o0 < b28) (o_b28_b35 : b28 < b35) (o_b35_b43 : b35 < b43) (o_b43_b51 : b43 < b51) (o_b51_b59 : b51 < b59) (o_b59_b295 : b59 < b295) (o_b295_b302 : b295 < b302) (o_b302_b309 : b302 < b309) (g_o0 : n0 ≤ o0) (z_b28 : h0.size ≤ b28) (E_o0 : Exa Z h o0 "com/example/gridfare/gridfare/engine/ResidualNetwork") (Fo0_8 : Fld Z h o0 "com/example/gridfare/gridfare/engine/ResidualNetwork" "nodes" "I" (.int c_o0_nodes)) (Fo0_a : Fld Z h o0 "com/example/gridfare/gridfare/engine/ResidualNetwork" "firstArc" "[I" (.ref b28)) (Fo0_b : Fld Z h o0 "com/example/gridfare/gridfare/engine/ResidualNetwork" "added" "[I" (.ref b35)) (Fo0_c : Fld Z h o0 "com/example/gridfare/gridfare/engine/ResidualNetwork" "head" "[I" (.ref b43)) (Fo0_d : Fld Z h o0 "com/example/gridfare/gridfare/engine/ResidualNetwork" "twin" "[I" (.ref b51)) (Fo0_e : Fld Z h o0 "com/example/gridfare/gridfare/engine/ResidualNetwork" "residual" "[I" (.ref b59)) (Fo0_10 : Fld Z h o0 "com/example/gridfare/gridfare/engine/ResidualNetwork" "level" "[I" (.ref b295)) (Fo0_11 : Fld Z h o0 "com/example/gridfare/gridfare/engine/ResidualNetwork" "levelled" "[I" (.ref b302)) (Fo0_12 : Fld Z h o0 "com/example/gridfare/gridfare/engine/ResidualNetwork" "arcInto" "[I" (.ref b309)) (Fo0_1a : Fld Z h o0 "com/example/gridfare/gridfare/engine/ResidualNetwork" "lowering" "Lcom/example/gridfare/gridfare/engine/LoweringTree;" .null) (Fo0_1b : Fld Z h o0 "com/example/gridfare/gridfare/engine/ResidualNetwork" "currentArc" "[I" .null) (V_b28 : own_AI Z h b28 .int v_b28) (V_b35 : own_AI Z h b35 .int v_b35) (V_b43 : own_AI Z h b43 .int v_b43) (V_b51 : own_AI Z h b51 .int v_b51) (V_b59 : own_AI Z h b59 .int v_b59) (V_b295 : own_AI Z h b295 .int v_b295) (V_b302 : own_AI Z h b302 .int v_b302) (V_b309 : own_AI Z h b309 .int v_b309) (x1 : Int32) (x2 : Int32) (s3 : Slot) (hs3 : One s3) (s4 : Slot) (hs4 : One s4) (s5 : Slot) (hs5 : One s5) (s6 : Slot) (hs6 : One s6) (x7 : Int32) (s8 : Slot) (hs8 : One s8) (x9 : Int32) (s10 : Slot) (hs10 : One s10) (s11 : Slot) (hs11 : One s11) (hv : f3_371 c_o0_nodes v_b28 v_b35 v_b43 v_b51 v_b59 v_b295 v_b302 v_b309 x1 = some rr) :
    own_WP p e below (own_Q s P rmR3.cells rmR3.slots) T (mkF m 371 #[.val (.ref o0), .val (.int x1), .val (.int x2), s3, s4, s5, s6, .val (.int x7), s8, .val (.int x9), s10, s11] []) := by
  obtain ⟨hx, hZ, hby, hml, hown, hnm, hret, hlk⟩ := id C
  replace hown : s.vm.findClass "com/example/gridfare/gridfare/engine/ResidualNetwork" = some m.cls := hown
  unfold f3_371 at hv
  show own_WP p e below _ T (mkF m 371 #[.val (.ref o0), .val (.int x1), .val (.int x2), s3, s4, s5, s6, .val (.int x7), s8, .val (.int x9), s10, s11] [])
  refine own_go (fun _ => XS.aloadN X.here hx rfl (hb hby d3_371) rfl rfl) ?_
  show own_WP p e below _ T (mkF m 372 #[.val (.ref o0), .val (.int x1), .val (.int x2), s3, s4, s5, s6, .val (.int x7), s8, .val (.int x9), s10, s11] [(.ref o0)])
  obtain ⟨T80, h80, X80, e80, E80, A80, D80, -, st80⟩ := newO X hx hZ hown (hw _ (List.mem_of_getElem? (i := 90) rfl)) (hw _ (List.mem_of_getElem? (i := 91) rfl)) (hw _ (List.mem_of_getElem? (i := 92) rfl)) e0 (g := (mkF m 372 #[.val (.ref o0), .val (.int x1), .val (.int x2), s3, s4, s5, s6, .val (.int x7), s8, .val (.int x9), s10, s11] [(.ref o0)])) rfl (hb hby d3_372) (by decide) (by decide)
  obtain ⟨b372, hb_b372⟩ : ∃ z, z = h.size := ⟨_, rfl⟩
  rw [← hb_b372] at A80 D80 st80
  refine own_go st80 ?_
  have o_b309_b372 : b309 < b372 := by have q : b309 < h.size := V_b309.lt; omega
  replace E_o0 := E_o0.ext E80
  replace Fo0_8 := Fo0_8.ext E80
  replace Fo0_a := Fo0_a.ext E80
  replace Fo0_b := Fo0_b.ext E80
  replace Fo0_c := Fo0_c.ext E80
  replace Fo0_d := Fo0_d.ext E80
  replace Fo0_e := Fo0_e.ext E80
  replace Fo0_10 := Fo0_10.ext E80
  replace Fo0_11 := Fo0_11.ext E80
  replace Fo0_12 := Fo0_12.ext E80
  replace Fo0_1a := Fo0_1a.ext E80
  replace Fo0_1b := Fo0_1b.ext E80
  replace V_b28 := V_b28.ext E80
  replace V_b35 := V_b35.ext E80
  replace V_b43 := V_b43.ext E80
  replace V_b51 := V_b51.ext E80
  replace V_b59 := V_b59.ext E80
  replace V_b295 := V_b295.ext E80
  replace V_b302 := V_b302.ext E80
  replace V_b309 := V_b309.ext E80
  replace K := K.ext E80
  have E_b372 := A80
  have Fb372_4 : Fld Z h80 b372 "com/example/gridfare/gridfare/engine/LoweringTree" "root" "I" (.int (0 : Int32)) := D80 (Or.inr (hw _ (List.mem_of_getElem? (i := 98) rfl))) (ty := .int) (by decide)
  have Fb372_5 : Fld Z h80 b372 "com/example/gridfare/gridfare/engine/LoweringTree" "following" "[I" .null := D80 (Or.inr (hw _ (List.mem_of_getElem? (i := 100) rfl))) (ty := (.array .int)) (by decide)
  have Fb372_6 : Fld Z h80 b372 "com/example/gridfare/gridfare/engine/LoweringTree" "preceding" "[I" .null := D80 (Or.inr (hw _ (List.mem_of_getElem? (i := 102) rfl))) (ty := (.array .int)) (by decide)
  have Fb372_7 : Fld Z h80 b372 "com/example/gridfare/gridfare/engine/LoweringTree" "depth" "[I" .null := D80 (Or.inr (hw _ (List.mem_of_getElem? (i := 104) rfl))) (ty := (.array .int)) (by decide)
  show own_WP p e below _ T80 (mkF m 375 _ [(.ref b372), (.ref o0)])
  refine own_go (fun _ => XS.dup X80.here hx rfl (hb hby d3_375) rfl rfl) ?_
  show own_WP p e below _ T80 (mkF m 376 _ [(.ref b372), (.ref b372), (.ref o0)])
  refine own_go (fun _ => XS.iloadN X80.here hx rfl (hb hby d3_376) rfl) ?_
  show own_WP p e below _ T80 (mkF m 377 #[.val (.ref o0), .val (.int x1), .val (.int x2), s3, s4, s5, s6, .val (.int x7), s8, .val (.int x9), s10, s11] [(.int x1), (.ref b372), (.ref b372), (.ref o0)])
  obtain ⟨rr81, hf81, hv⟩ := own_bind hv
  obtain ⟨T81, v81, L81, X81, ⟨N81, K81, Q81⟩, st81⟩ := own_callN X80 C (a := b372) (argsL := [(.int x1)]) (rm10 l Z a0 hw n0 h80 (by have q := K.1; omega) (by omega) E_b372 Fb372_4 Fb372_5 Fb372_6 Fb372_7 x1 rr81 hf81) rfl (hw _ (List.mem_of_getElem? (i := 93) rfl)) (hw _ (List.mem_of_getElem? (i := 94) rfl)) (hw _ (List.mem_of_getElem? (i := 92) rfl)) (hw _ (List.mem_of_getElem? (i := 95) rfl)) (by decide) e80 (W := 2) (pc := 377) (Ls := #[.val (.ref o0), .val (.int x1), .val (.int x2), s3, s4, s5, s6, .val (.int x7), s8, .val (.int x9), s10, s11]) rfl (lenOf pd10 rfl) (rest := [(.ref b372), (.ref o0)]) (stk := [(.int x1), (.ref b372), (.ref b372), (.ref o0)]) rfl (Nat.le_of_ble_eq_true rfl) (hb hby d3_377) (by decide) (by decide) (by decide) (by decide)
  replace N := Fr.app N N81
  replace E_o0 := E_o0.keep K81
  have nq : o0 ∉ ([b372] : List Addr) := (ninS (own_ne (by omega)) nin0)
  replace Fo0_8 := Fo0_8.keep K81 nq
  replace Fo0_a := Fo0_a.keep K81 nq
  replace Fo0_b := Fo0_b.keep K81 nq
  replace Fo0_c := Fo0_c.keep K81 nq
  replace Fo0_d := Fo0_d.keep K81 nq
  replace Fo0_e := Fo0_e.keep K81 nq
  replace Fo0_10 := Fo0_10.keep K81 nq
  replace Fo0_11 := Fo0_11.keep K81 nq
  replace Fo0_12 := Fo0_12.keep K81 nq
  replace Fo0_1a := Fo0_1a.keep K81 nq
  replace Fo0_1b := Fo0_1b.keep K81 nq
  clear nq
  replace V_b28 := V_b28.keep K81 (ninS (own_ne (by omega)) nin0)
  replace V_b35 := V_b35.keep K81 (ninS (own_ne (by omega)) nin0)
  replace V_b43 := V_b43.keep K81 (ninS (own_ne (by omega)) nin0)
  replace V_b51 := V_b51.keep K81 (ninS (own_ne (by omega)) nin0)
  replace V_b59 := V_b59.keep K81 (ninS (own_ne (by omega)) nin0)
  replace V_b295 := V_b295.keep K81 (ninS (own_ne (by omega)) nin0)
  replace V_b302 := V_b302.keep K81 (ninS (own_ne (by omega)) nin0)
  replace V_b309 := V_b309.keep K81 (ninS (own_ne (by omega)) nin0)
  clear E_b372
  clear Fb372_4
  clear Fb372_5
  clear Fb372_6
  clear Fb372_7
  obtain ⟨rfl, E_b372⟩ := Q81
  replace K := K.trans K81 (allS (Or.inr (by omega)) all0)
  refine own_go st81 ?_
  clear st81 N81 K81 hf81 X80 e80
  show own_WP p e below _ T81 (mkF m 380 #[.val (.ref o0), .val (.int x1), .val (.int x2), s3, s4, s5, s6, .val (.int x7), s8, .val (.int x9), s10, s11] [(.ref b372), (.ref o0)])
  obtain ⟨T82, h82, X82, e82, W82, st82⟩ := putF X81 hx hZ hown (host := "") (Or.inl (hw _ (List.mem_of_getElem? (i := 110) rfl))) Via.refl (rfl : T81.heap = T81.heap) Fo0_1a E_o0 (Or.inr ⟨(hw _ (List.mem_of_getElem? (i := 111) rfl)), rfl, hnm⟩) (hw _ (List.mem_of_getElem? (i := 11) rfl)) (ty := (.object "com/example/gridfare/gridfare/engine/LoweringTree")) (by decide) rfl rfl (g := (mkF m 380 #[.val (.ref o0), .val (.int x1), .val (.int x2), s3, s4, s5, s6, .val (.int x7), s8, .val (.int x9), s10, s11] [(.ref b372), (.ref o0)])) rfl rfl (hb hby d3_380)
  refine own_go st82 ?_
  replace E_o0 := E_o0.wr W82
  replace Fo0_8 := Fo0_8.other W82 (Or.inr (slot_ne (ly9 hw) (ly26 hw) (by decide) pf1 pf6))
  replace Fo0_a := Fo0_a.other W82 (Or.inr (slot_ne (ly10 hw) (ly26 hw) (by decide) pf0 pf6))
  replace Fo0_b := Fo0_b.other W82 (Or.inr (slot_ne (ly11 hw) (ly26 hw) (by decide) pf0 pf6))
  replace Fo0_c := Fo0_c.other W82 (Or.inr (slot_ne (ly12 hw) (ly26 hw) (by decide) pf0 pf6))
  replace Fo0_d := Fo0_d.other W82 (Or.inr (slot_ne (ly13 hw) (ly26 hw) (by decide) pf0 pf6))
  replace Fo0_e := Fo0_e.other W82 (Or.inr (slot_ne (ly14 hw) (ly26 hw) (by decide) pf0 pf6))
  replace Fo0_10 := Fo0_10.other W82 (Or.inr (slot_ne (ly16 hw) (ly26 hw) (by decide) pf0 pf6))
  replace Fo0_11 := Fo0_11.other W82 (Or.inr (slot_ne (ly17 hw) (ly26 hw) (by decide) pf0 pf6))
  replace Fo0_12 := Fo0_12.other W82 (Or.inr (slot_ne (ly18 hw) (ly26 hw) (by decide) pf0 pf6))
  replace Fo0_1a := Fo0_1a.same W82
  replace Fo0_1b := Fo0_1b.other W82 (Or.inr (slot_ne (ly27 hw) (ly26 hw) (by decide) pf0 pf6))
  replace V_b28 := V_b28.other W82 (own_ne (by omega))
  replace V_b35 := V_b35.other W82 (own_ne (by omega))
  replace V_b43 := V_b43.other W82 (own_ne (by omega))
  replace V_b51 := V_b51.other W82 (own_ne (by omega))
  replace V_b59 := V_b59.other W82 (own_ne (by omega))
  replace V_b295 := V_b295.other W82 (own_ne (by omega))
  replace V_b302 := V_b302.other W82 (own_ne (by omega))
  replace V_b309 := V_b309.other W82 (own_ne (by omega))
  replace E_b372 := E_b372.wr W82
  replace K := K.wr W82 (Or.inl (List.mem_of_getElem? (i := 0) rfl))
  replace N := Fr.snoc X82 N (by omega)
  clear st82 W82 X81
  clear Fo0_1a
  clear E_b372
  show own_WP p e below _ T82 (mkF m 383 _ [])
  refine own_go (fun _ => XS.aloadN X82.here hx rfl (hb hby d3_383) rfl rfl) ?_
  show own_WP p e below _ T82 (mkF m 384 _ [(.ref o0)])
  refine own_go (fun _ => XS.iloadN X82.here hx rfl (hb hby d3_384) rfl) ?_
  show own_WP p e below _ T82 (mkF m 385 #[.val (.ref o0), .val (.int x1), .val (.int x2), s3, s4, s5, s6, .val (.int x7), s8, .val (.int x9), s10, s11] [(.int x1), (.ref o0)])
  by_cases h385 : x1 < 0 ∨ 3 < x1.toInt
  · cases ((if_pos h385).symm.trans hv)
  replace hv := (if_neg h385).symm.trans hv
  obtain ⟨T83, h83, b385, X83, e83, E83, hb_b385, V_b385, st83⟩ := own_newI X82 C e82 (aty := .int) (ty := .int) rfl rfl rfl (hw _ (List.mem_of_getElem? (i := 2) rfl)) (n := x1) (fun q => h385 (Or.inl q)) (cap := 3) (own_cap (k := 3) rfl (fun q => h385 (Or.inr q))) (by decide) (by decide) (by decide) (pc := 385) (Ls := #[.val (.ref o0), .val (.int x1), .val (.int x2), s3, s4, s5, s6, .val (.int x7), s8, .val (.int x9), s10, s11]) (rest := [(.ref o0)]) (hb hby d3_385)
  refine own_go st83 ?_
  have o_b309_b385 : b309 < b385 := by have q : b309 < h82.size := V_b309.lt; omega
  replace E_o0 := E_o0.ext E83
  replace Fo0_8 := Fo0_8.ext E83
  replace Fo0_a := Fo0_a.ext E83
  replace Fo0_b := Fo0_b.ext E83
  replace Fo0_c := Fo0_c.ext E83
  replace Fo0_d := Fo0_d.ext E83
  replace Fo0_e := Fo0_e.ext E83
  replace Fo0_10 := Fo0_10.ext E83
  replace Fo0_11 := Fo0_11.ext E83
  replace Fo0_12 := Fo0_12.ext E83
  replace Fo0_1b := Fo0_1b.ext E83
  replace V_b28 := V_b28.ext E83
  replace V_b35 := V_b35.ext E83
  replace V_b43 := V_b43.ext E83
  replace V_b51 := V_b51.ext E83
  replace V_b59 := V_b59.ext E83
  replace V_b295 := V_b295.ext E83
  replace V_b302 := V_b302.ext E83
  replace V_b309 := V_b309.ext E83
  replace K := K.ext E83
  clear st83 E83 hb_b385 X82 e82
  show own_WP p e below _ T83 (mkF m 387 #[.val (.ref o0), .val (.int x1), .val (.int x2), s3, s4, s5, s6, .val (.int x7), s8, .val (.int x9), s10, s11] [(.ref b385), (.ref o0)])
  obtain ⟨T84, h84, X84, e84, W84, st84⟩ := putF X83 hx hZ hown (host := "") (Or.inl (hw _ (List.mem_of_getElem? (i := 112) rfl))) Via.refl e83 Fo0_1b E_o0 (Or.inr ⟨(hw _ (List.mem_of_getElem? (i := 113) rfl)), rfl, hnm⟩) (hw _ (List.mem_of_getElem? (i := 11) rfl)) (ty := (.array .int)) (by decide) rfl rfl (g := (mkF m 387 #[.val (.ref o0), .val (.int x1), .val (.int x2), s3, s4, s5, s6, .val (.int x7), s8, .val (.int x9), s10, s11] [(.ref b385), (.ref o0)])) rfl rfl (hb hby d3_387)
  refine own_go st84 ?_
  replace E_o0 := E_o0.wr W84
  replace Fo0_8 := Fo0_8.other W84 (Or.inr (slot_ne (ly9 hw) (ly27 hw) (by decide) pf1 pf0))
  replace Fo0_a := Fo0_a.other W84 (Or.inr (slot_ne (ly10 hw) (ly27 hw) (by decide) pf0 pf0))
  replace Fo0_b := Fo0_b.other W84 (Or.inr (slot_ne (ly11 hw) (ly27 hw) (by decide) pf0 pf0))
  replace Fo0_c := Fo0_c.other W84 (Or.inr (slot_ne (ly12 hw) (ly27 hw) (by decide) pf0 pf0))
  replace Fo0_d := Fo0_d.other W84 (Or.inr (slot_ne (ly13 hw) (ly27 hw) (by decide) pf0 pf0))
  replace Fo0_e := Fo0_e.other W84 (Or.inr (slot_ne (ly14 hw) (ly27 hw) (by decide) pf0 pf0))
  replace Fo0_10 := Fo0_10.other W84 (Or.inr (slot_ne (ly16 hw) (ly27 hw) (by decide) pf0 pf0))
  replace Fo0_11 := Fo0_11.other W84 (Or.inr (slot_ne (ly17 hw) (ly27 hw) (by decide) pf0 pf0))
  replace Fo0_12 := Fo0_12.other W84 (Or.inr (slot_ne (ly18 hw) (ly27 hw) (by decide) pf0 pf0))
  replace Fo0_1b := Fo0_1b.same W84
  replace V_b28 := V_b28.other W84 (own_ne (by omega))
  replace V_b35 := V_b35.other W84 (own_ne (by omega))
  replace V_b43 := V_b43.other W84 (own_ne (by omega))
  replace V_b51 := V_b51.other W84 (own_ne (by omega))
  replace V_b59 := V_b59.other W84 (own_ne (by omega))
  replace V_b295 := V_b295.other W84 (own_ne (by omega))
  replace V_b302 := V_b302.other W84 (own_ne (by omega))
  replace V_b309 := V_b309.other W84 (own_ne (by omega))
  replace V_b385 := V_b385.other W84 (own_ne (by omega))
  replace K := K.wr W84 (Or.inl (List.mem_of_getElem? (i := 0) rfl))
  replace N := Fr.snoc X84 N (by omega)
  clear st84 W84 X83 e83
  show own_WP p e below _ T84 (mkF m 390 #[.val (.ref o0), .val (.int x1), .val (.int x2), s3, s4, s5, s6, .val (.int x7), s8, .val (.int x9), s10, s11] [])
  obtain rfl := Option.some.inj hv
  exact own_retV X84 C (hb hby d3_390) (by rw [e84]; exact hP _ _ _ N K ⟨b28, b35, b43, b51, b59, b295, b302, b309, b385, (by omega), (by omega), (by omega), (by omega), (by omega), (by omega), (by omega), (by omega), (by omega), rfl, E_o0, Fo0_8, Fo0_a, Fo0_b, Fo0_c, Fo0_d, Fo0_e, Fo0_10, Fo0_11, Fo0_12, Fo0_1b, V_b28, V_b35, V_b43, V_b51, V_b59, V_b295, V_b302, V_b309, V_b385⟩) (by decide) (by decide)
def f3_342 (c_o0_nodes : Int32) (v_b28 : List Int32) (v_b35 : List Int32) (v_b43 : List Int32) (v_b51 : List Int32) (v_b59 : List Int32) (v_b295 : List Int32) (v_b302 : List Int32) (v_b309 : List Int32) (x1 : Int32) : Option (Int32 × (List Int32) × (List Int32) × (List Int32) × (List Int32) × (List Int32) × (List Int32) × (List Int32) × (List Int32) × (List Int32)) := ((f8_0 x1 ((4 : Int32) * x1)).bind fun rr74 => (if x1 < 0 ∨ 3 < x1.toInt then none else (if x1 < 0 ∨ 3 < x1.toInt then none else (f3_371 c_o0_nodes v_b28 v_b35 v_b43 v_b51 v_b59 v_b295 v_b302 v_b309 x1))))
set_option maxRecDepth 65536 in
set_option maxHeartbeats 40000000 in
theorem b3_342 {p : Program} {l : Launch} {e : Env} {s : State} {m : MethodId} {args : Array Value} {below : List Frame} {meth : Method} {c : Code} {Z : State} {a0 : Array Value} {h0 : Heap} {n0 : Nat} {P : Option Value → Heap → List Loc → Prop} (hw : ∀ d ∈ tables_1, d.before a0 Z = true) (C : own_Ctx p s m meth c Z (⟨"com/example/gridfare/gridfare/engine/ResidualNetwork", "<init>", "(II[I[I[I[J)V"⟩ : MethodName) prog_42_method_1_code 12 none) (Z0 : n0 ≤ h0.size) {o3 : Nat} {o4 : Nat} {o5 : Nat} {o0 : Nat} {o6 : Nat} {ta : List Int32} {he : List Int32} {ca : List Int32} {s_scale : Int64} {co : List Int64} (rr : Int32 × (List Int32) × (List Int32) × (List Int32) × (List Int32) × (List Int32) × (List Int32) × (List Int32) × (List Int32) × (List Int32)) (hP : ∀ v h L, Fr n0 L → Keep h0 h [o0] → E3 Z h0 o3 o4 o5 o0 o6 ta he ca s_scale co rr v h → P v h L)
    {T : State} {locs : List Loc} {h : Heap} {b28 : Nat} {b35 : Nat} {b43 : Nat} {b51 : Nat} {b59 : Nat} {b295 : Nat} {b302 : Nat} {b309 : Nat} {c_o0_nodes : Int32} {v_b28 : List Int32} {v_b35 : List Int32} {v_b43 : List Int32} {v_b51 : List Int32} {v_b59 : List Int32} {v_b295 : List Int32} {v_b302 : List Int32} {v_b309 : List Int32} (X : Stand p l e rmR3 s m args below meth c T locs 14 64) (e0 : T.heap = h) (N : Fr n0 locs) (K : Keep h0 h [o0]) (o_o0_b28 : o0 < b28) (o_b28_b35 : b28 < b35) (o_b35_b43 : b35 < b43) (o_b43_b51 : b43 < b51) (o_b51_b59 : b51 < b59) (o_b59_b295 : b59 < b295) (o_b295_b302 : b295 < b302) (o_b302_b309 : b302 < b309) (g_o0 : n0 ≤ o0) (z_b28 : h0.size ≤ b28) (E_o0 : Exa Z h o0 "com/example/gridfare/gridfare/engine/ResidualNetwork") (Fo0_8 : Fld Z h o0 "com/example/gridfare/gridfare/engine/ResidualNetwork" "nodes" "I" (.int c_o0_nodes)) (Fo0_a : Fld Z h o0 "com/example/gridfare/gridfare/engine/ResidualNetwork" "firstArc" "[I" (.ref b28)) (Fo0_b : Fld Z h o0 "com/example/gridfare/gridfare/engine/ResidualNetwork" "added" "[I" (.ref b35)) (Fo0_c : Fld Z h o0 "com/example/gridfare/gridfare/engine/ResidualNetwork" "head" "[I" (.ref b43)) (Fo0_d : Fld Z h o0 "com/example/gridfare/gridfare/engine/ResidualNetwork" "twin" "[I" (.ref b51)) (Fo0_e : Fld Z h o0 "com/example/gridfare/gridfare/engine/ResidualNetwork" "residual" "[I" (.ref b59)) (Fo0_10 : Fld Z h o0 "com/example/gridfare/gridfare/engine/ResidualNetwork" "level" "[I" (.ref b295)) (Fo0_11 : Fld Z h o0 "com/example/gridfare/gridfare/engine/ResidualNetwork" "levelled" "[I" (.ref b302)) (Fo0_12 : Fld Z h o0 "com/example/gridfare/gridfare/engine/ResidualNetwork" "arcInto" "[I" (.ref b309)) (Fo0_17 : Fld Z h o0 "com/example/gridfare/gridfare/engine/ResidualNetwork" "nearestDeficit" "Lcom/example/gridfare/gridfare/engine/BucketQueue;" .null) (Fo0_18 : Fld Z h o0 "com/example/gridfare/gridfare/engine/ResidualNetwork" "settled" "[Z" .null) (Fo0_19 : Fld Z h o0 "com/example/gridfare/gridfare/engine/ResidualNetwork" "potential" "[J" .null) (Fo0_1a : Fld Z h o0 "com/example/gridfare/gridfare/engine/ResidualNetwork" "lowering" "Lcom/example/gridfare/gridfare/engine/LoweringTree;" .null) (Fo0_1b : Fld Z h o0 "com/example/gridfare/gridfare/engine/ResidualNetwork" "currentArc" "[I" .null) (V_b28 : own_AI Z h b28 .int v_b28) (V_b35 : own_AI Z h b35 .int v_b35) (V_b43 : own_AI Z h b43 .int v_b43) (V_b51 : own_AI Z h b51 .int v_b51) (V_b59 : own_AI Z h b59 .int v_b59) (V_b295 : own_AI Z h b295 .int v_b295) (V_b302 : own_AI Z h b302 .int v_b302) (V_b309 : own_AI Z h b309 .int v_b309) (x1 : Int32) (x2 : Int32) (s3 : Slot) (hs3 : One s3) (s4 : Slot) (hs4 : One s4) (s5 : Slot) (hs5 : One s5) (s6 : Slot) (hs6 : One s6) (x7 : Int32) (s8 : Slot) (hs8 : One s8) (x9 : Int32) (s10 : Slot) (hs10 : One s10) (s11 : Slot) (hs11 : One s11) (hv : f3_342 c_o0_nodes v_b28 v_b35 v_b43 v_b51 v_b59 v_b295 v_b302 v_b309 x1 = some rr) :
    own_WP p e below (own_Q s P rmR3.cells rmR3.slots) T (mkF m 342 #[.val (.ref o0), .val (.int x1), .val (.int x2), s3, s4, s5, s6, .val (.int x7), s8, .val (.int x9), s10, s11] []) := by
  obtain ⟨hx, hZ, hby, hml, hown, hnm, hret, hlk⟩ := id C
  replace hown : s.vm.findClass "com/example/gridfare/gridfare/engine/ResidualNetwork" = some m.cls := hown
  unfold f3_342 at hv
  show own_WP p e below _ T (mkF m 342 #[.val (.ref o0), .val (.int x1), .val (.int x2), s3, s4, s5, s6, .val (.int x7), s8, .val (.int x9), s10, s11] [])
  refine own_go (fun _ => XS.aloadN X.here hx rfl (hb hby d3_342) rfl rfl) ?_
  show own_WP p e below _ T (mkF m 343 #[.val (.ref o0), .val (.int x1), .val (.int x2), s3, s4, s5, s6, .val (.int x7), s8, .val (.int x9), s10, s11] [(.ref o0)])
  obtain ⟨T73, h73, X73, e73, E73, A73, D73, -, st73⟩ := newO X hx hZ hown (hw _ (List.mem_of_getElem? (i := 66) rfl)) (hw _ (List.mem_of_getElem? (i := 67) rfl)) (hw _ (List.mem_of_getElem? (i := 68) rfl)) e0 (g := (mkF m 343 #[.val (.ref o0), .val (.int x1), .val (.int x2), s3, s4, s5, s6, .val (.int x7), s8, .val (.int x9), s10, s11] [(.ref o0)])) rfl (hb hby d3_343) (by decide) (by decide)
  obtain ⟨b343, hb_b343⟩ : ∃ z, z = h.size := ⟨_, rfl⟩
  rw [← hb_b343] at A73 D73 st73
  refine own_go st73 ?_
  have o_b309_b343 : b309 < b343 := by have q : b309 < h.size := V_b309.lt; omega
  replace E_o0 := E_o0.ext E73
  replace Fo0_8 := Fo0_8.ext E73
  replace Fo0_a := Fo0_a.ext E73
  replace Fo0_b := Fo0_b.ext E73
  replace Fo0_c := Fo0_c.ext E73
  replace Fo0_d := Fo0_d.ext E73
  replace Fo0_e := Fo0_e.ext E73
  replace Fo0_10 := Fo0_10.ext E73
  replace Fo0_11 := Fo0_11.ext E73
  replace Fo0_12 := Fo0_12.ext E73
  replace Fo0_17 := Fo0_17.ext E73
  replace Fo0_18 := Fo0_18.ext E73
  replace Fo0_19 := Fo0_19.ext E73
  replace Fo0_1a := Fo0_1a.ext E73
  replace Fo0_1b := Fo0_1b.ext E73
  replace V_b28 := V_b28.ext E73
  replace V_b35 := V_b35.ext E73
  replace V_b43 := V_b43.ext E73
  replace V_b51 := V_b51.ext E73
  replace V_b59 := V_b59.ext E73
  replace V_b295 := V_b295.ext E73
  replace V_b302 := V_b302.ext E73
  replace V_b309 := V_b309.ext E73
  replace K := K.ext E73
  have E_b343 := A73
  have Fb343_0 : Fld Z h73 b343 "com/example/gridfare/gridfare/engine/BucketQueue" "first" "[I" .null := D73 (Or.inr (hw _ (List.mem_of_getElem? (i := 74) rfl))) (ty := (.array .int)) (by decide)
  have Fb343_1 : Fld Z h73 b343 "com/example/gridfare/gridfare/engine/BucketQueue" "next" "[I" .null := D73 (Or.inr (hw _ (List.mem_of_getElem? (i := 76) rfl))) (ty := (.array .int)) (by decide)
  have Fb343_2 : Fld Z h73 b343 "com/example/gridfare/gridfare/engine/BucketQueue" "previous" "[I" .null := D73 (Or.inr (hw _ (List.mem_of_getElem? (i := 78) rfl))) (ty := (.array .int)) (by decide)
  have Fb343_3 : Fld Z h73 b343 "com/example/gridfare/gridfare/engine/BucketQueue" "distance" "[I" .null := D73 (Or.inr (hw _ (List.mem_of_getElem? (i := 80) rfl))) (ty := (.array .int)) (by decide)
  show own_WP p e below _ T73 (mkF m 346 _ [(.ref b343), (.ref o0)])
  refine own_go (fun _ => XS.dup X73.here hx rfl (hb hby d3_346) rfl rfl) ?_
  show own_WP p e below _ T73 (mkF m 347 _ [(.ref b343), (.ref b343), (.ref o0)])
  refine own_go (fun _ => XS.iloadN X73.here hx rfl (hb hby d3_347) rfl) ?_
  show own_WP p e below _ T73 (mkF m 348 _ [(.int x1), (.ref b343), (.ref b343), (.ref o0)])
  refine own_go (fun _ => XS.iconst X73.here hx rfl (hb hby d3_348)) ?_
  show own_WP p e below _ T73 (mkF m 349 _ [(.int (4 : Int32)), (.int x1), (.ref b343), (.ref b343), (.ref o0)])
  refine own_go (fun _ => XS.iloadN X73.here hx rfl (hb hby d3_349) rfl) ?_
  show own_WP p e below _ T73 (mkF m 350 _ [(.int x1), (.int (4 : Int32)), (.int x1), (.ref b343), (.ref b343), (.ref o0)])
  refine own_go (fun _ => XS.imul X73.here hx rfl (hb hby d3_350) rfl) ?_
  show own_WP p e below _ T73 (mkF m 351 #[.val (.ref o0), .val (.int x1), .val (.int x2), s3, s4, s5, s6, .val (.int x7), s8, .val (.int x9), s10, s11] [(.int ((4 : Int32) * x1)), (.int x1), (.ref b343), (.ref b343), (.ref o0)])
  obtain ⟨rr74, hf74, hv⟩ := own_bind hv
  obtain ⟨T74, v74, L74, X74, ⟨N74, K74, Q74⟩, st74⟩ := own_callN X73 C (a := b343) (argsL := [(.int x1), (.int ((4 : Int32) * x1))]) (rm8 l Z a0 hw n0 h73 (by have q := K.1; omega) (by omega) E_b343 Fb343_0 Fb343_1 Fb343_2 Fb343_3 x1 ((4 : Int32) * x1) rr74 hf74) rfl (hw _ (List.mem_of_getElem? (i := 69) rfl)) (hw _ (List.mem_of_getElem? (i := 70) rfl)) (hw _ (List.mem_of_getElem? (i := 68) rfl)) (hw _ (List.mem_of_getElem? (i := 71) rfl)) (by decide) e73 (W := 2) (pc := 351) (Ls := #[.val (.ref o0), .val (.int x1), .val (.int x2), s3, s4, s5, s6, .val (.int x7), s8, .val (.int x9), s10, s11]) rfl (lenOf pd8 rfl) (rest := [(.ref b343), (.ref o0)]) (stk := [(.int ((4 : Int32) * x1)), (.int x1), (.ref b343), (.ref b343), (.ref o0)]) rfl (Nat.le_of_ble_eq_true rfl) (hb hby d3_351) (by decide) (by decide) (by decide) (by decide)
  replace N := Fr.app N N74
  replace E_o0 := E_o0.keep K74
  have nq : o0 ∉ ([b343] : List Addr) := (ninS (own_ne (by omega)) nin0)
  replace Fo0_8 := Fo0_8.keep K74 nq
  replace Fo0_a := Fo0_a.keep K74 nq
  replace Fo0_b := Fo0_b.keep K74 nq
  replace Fo0_c := Fo0_c.keep K74 nq
  replace Fo0_d := Fo0_d.keep K74 nq
  replace Fo0_e := Fo0_e.keep K74 nq
  replace Fo0_10 := Fo0_10.keep K74 nq
  replace Fo0_11 := Fo0_11.keep K74 nq
  replace Fo0_12 := Fo0_12.keep K74 nq
  replace Fo0_17 := Fo0_17.keep K74 nq
  replace Fo0_18 := Fo0_18.keep K74 nq
  replace Fo0_19 := Fo0_19.keep K74 nq
  replace Fo0_1a := Fo0_1a.keep K74 nq
  replace Fo0_1b := Fo0_1b.keep K74 nq
  clear nq
  replace V_b28 := V_b28.keep K74 (ninS (own_ne (by omega)) nin0)
  replace V_b35 := V_b35.keep K74 (ninS (own_ne (by omega)) nin0)
  replace V_b43 := V_b43.keep K74 (ninS (own_ne (by omega)) nin0)
  replace V_b51 := V_b51.keep K74 (ninS (own_ne (by omega)) nin0)
  replace V_b59 := V_b59.keep K74 (ninS (own_ne (by omega)) nin0)
  replace V_b295 := V_b295.keep K74 (ninS (own_ne (by omega)) nin0)
  replace V_b302 := V_b302.keep K74 (ninS (own_ne (by omega)) nin0)
  replace V_b309 := V_b309.keep K74 (ninS (own_ne (by omega)) nin0)
  clear E_b343
  clear Fb343_0
  clear Fb343_1
  clear Fb343_2
  clear Fb343_3
  obtain ⟨rfl, E_b343⟩ := Q74
  replace K := K.trans K74 (allS (Or.inr (by omega)) all0)
  refine own_go st74 ?_
  clear st74 N74 K74 hf74 X73 e73
  show own_WP p e below _ T74 (mkF m 354 #[.val (.ref o0), .val (.int x1), .val (.int x2), s3, s4, s5, s6, .val (.int x7), s8, .val (.int x9), s10, s11] [(.ref b343), (.ref o0)])
  obtain ⟨T75, h75, X75, e75, W75, st75⟩ := putF X74 hx hZ hown (host := "") (Or.inl (hw _ (List.mem_of_getElem? (i := 84) rfl))) Via.refl (rfl : T74.heap = T74.heap) Fo0_17 E_o0 (Or.inr ⟨(hw _ (List.mem_of_getElem? (i := 85) rfl)), rfl, hnm⟩) (hw _ (List.mem_of_getElem? (i := 11) rfl)) (ty := (.object "com/example/gridfare/gridfare/engine/BucketQueue")) (by decide) rfl rfl (g := (mkF m 354 #[.val (.ref o0), .val (.int x1), .val (.int x2), s3, s4, s5, s6, .val (.int x7), s8, .val (.int x9), s10, s11] [(.ref b343), (.ref o0)])) rfl rfl (hb hby d3_354)
  refine own_go st75 ?_
  replace E_o0 := E_o0.wr W75
  replace Fo0_8 := Fo0_8.other W75 (Or.inr (slot_ne (ly9 hw) (ly23 hw) (by decide) pf1 pf5))
  replace Fo0_a := Fo0_a.other W75 (Or.inr (slot_ne (ly10 hw) (ly23 hw) (by decide) pf0 pf5))
  replace Fo0_b := Fo0_b.other W75 (Or.inr (slot_ne (ly11 hw) (ly23 hw) (by decide) pf0 pf5))
  replace Fo0_c := Fo0_c.other W75 (Or.inr (slot_ne (ly12 hw) (ly23 hw) (by decide) pf0 pf5))
  replace Fo0_d := Fo0_d.other W75 (Or.inr (slot_ne (ly13 hw) (ly23 hw) (by decide) pf0 pf5))
  replace Fo0_e := Fo0_e.other W75 (Or.inr (slot_ne (ly14 hw) (ly23 hw) (by decide) pf0 pf5))
  replace Fo0_10 := Fo0_10.other W75 (Or.inr (slot_ne (ly16 hw) (ly23 hw) (by decide) pf0 pf5))
  replace Fo0_11 := Fo0_11.other W75 (Or.inr (slot_ne (ly17 hw) (ly23 hw) (by decide) pf0 pf5))
  replace Fo0_12 := Fo0_12.other W75 (Or.inr (slot_ne (ly18 hw) (ly23 hw) (by decide) pf0 pf5))
  replace Fo0_17 := Fo0_17.same W75
  replace Fo0_18 := Fo0_18.other W75 (Or.inr (slot_ne (ly24 hw) (ly23 hw) (by decide) pf4 pf5))
  replace Fo0_19 := Fo0_19.other W75 (Or.inr (slot_ne (ly25 hw) (ly23 hw) (by decide) pf3 pf5))
  replace Fo0_1a := Fo0_1a.other W75 (Or.inr (slot_ne (ly26 hw) (ly23 hw) (by decide) pf6 pf5))
  replace Fo0_1b := Fo0_1b.other W75 (Or.inr (slot_ne (ly27 hw) (ly23 hw) (by decide) pf0 pf5))
  replace V_b28 := V_b28.other W75 (own_ne (by omega))
  replace V_b35 := V_b35.other W75 (own_ne (by omega))
  replace V_b43 := V_b43.other W75 (own_ne (by omega))
  replace V_b51 := V_b51.other W75 (own_ne (by omega))
  replace V_b59 := V_b59.other W75 (own_ne (by omega))
  replace V_b295 := V_b295.other W75 (own_ne (by omega))
  replace V_b302 := V_b302.other W75 (own_ne (by omega))
  replace V_b309 := V_b309.other W75 (own_ne (by omega))
  replace E_b343 := E_b343.wr W75
  replace K := K.wr W75 (Or.inl (List.mem_of_getElem? (i := 0) rfl))
  replace N := Fr.snoc X75 N (by omega)
  clear st75 W75 X74
  clear Fo0_17
  clear E_b343
  show own_WP p e below _ T75 (mkF m 357 _ [])
  refine own_go (fun _ => XS.aloadN X75.here hx rfl (hb hby d3_357) rfl rfl) ?_
  show own_WP p e below _ T75 (mkF m 358 _ [(.ref o0)])
  refine own_go (fun _ => XS.iloadN X75.here hx rfl (hb hby d3_358) rfl) ?_
  show own_WP p e below _ T75 (mkF m 359 #[.val (.ref o0), .val (.int x1), .val (.int x2), s3, s4, s5, s6, .val (.int x7), s8, .val (.int x9), s10, s11] [(.int x1), (.ref o0)])
  by_cases h359 : x1 < 0 ∨ 3 < x1.toInt
  · cases ((if_pos h359).symm.trans hv)
  replace hv := (if_neg h359).symm.trans hv
  obtain ⟨T76, h76, b359, X76, e76, E76, hb_b359, V_b359, st76⟩ := own_newI X75 C e75 (aty := .boolean) (ty := .boolean) rfl rfl rfl (hw _ (List.mem_of_getElem? (i := 63) rfl)) (n := x1) (fun q => h359 (Or.inl q)) (cap := 3) (own_cap (k := 3) rfl (fun q => h359 (Or.inr q))) (by decide) (by decide) (by decide) (pc := 359) (Ls := #[.val (.ref o0), .val (.int x1), .val (.int x2), s3, s4, s5, s6, .val (.int x7), s8, .val (.int x9), s10, s11]) (rest := [(.ref o0)]) (hb hby d3_359)
  refine own_go st76 ?_
  have o_b309_b359 : b309 < b359 := by have q : b309 < h75.size := V_b309.lt; omega
  replace E_o0 := E_o0.ext E76
  replace Fo0_8 := Fo0_8.ext E76
  replace Fo0_a := Fo0_a.ext E76
  replace Fo0_b := Fo0_b.ext E76
  replace Fo0_c := Fo0_c.ext E76
  replace Fo0_d := Fo0_d.ext E76
  replace Fo0_e := Fo0_e.ext E76
  replace Fo0_10 := Fo0_10.ext E76
  replace Fo0_11 := Fo0_11.ext E76
  replace Fo0_12 := Fo0_12.ext E76
  replace Fo0_18 := Fo0_18.ext E76
  replace Fo0_19 := Fo0_19.ext E76
  replace Fo0_1a := Fo0_1a.ext E76
  replace Fo0_1b := Fo0_1b.ext E76
  replace V_b28 := V_b28.ext E76
  replace V_b35 := V_b35.ext E76
  replace V_b43 := V_b43.ext E76
  replace V_b51 := V_b51.ext E76
  replace V_b59 := V_b59.ext E76
  replace V_b295 := V_b295.ext E76
  replace V_b302 := V_b302.ext E76
  replace V_b309 := V_b309.ext E76
  replace K := K.ext E76
  clear st76 E76 hb_b359 X75 e75
  show own_WP p e below _ T76 (mkF m 361 #[.val (.ref o0), .val (.int x1), .val (.int x2), s3, s4, s5, s6, .val (.int x7), s8, .val (.int x9), s10, s11] [(.ref b359), (.ref o0)])
  obtain ⟨T77, h77, X77, e77, W77, st77⟩ := putF X76 hx hZ hown (host := "") (Or.inl (hw _ (List.mem_of_getElem? (i := 86) rfl))) Via.refl e76 Fo0_18 E_o0 (Or.inr ⟨(hw _ (List.mem_of_getElem? (i := 87) rfl)), rfl, hnm⟩) (hw _ (List.mem_of_getElem? (i := 11) rfl)) (ty := (.array .boolean)) (by decide) rfl rfl (g := (mkF m 361 #[.val (.ref o0), .val (.int x1), .val (.int x2), s3, s4, s5, s6, .val (.int x7), s8, .val (.int x9), s10, s11] [(.ref b359), (.ref o0)])) rfl rfl (hb hby d3_361)
  refine own_go st77 ?_
  replace E_o0 := E_o0.wr W77
  replace Fo0_8 := Fo0_8.other W77 (Or.inr (slot_ne (ly9 hw) (ly24 hw) (by decide) pf1 pf4))
  replace Fo0_a := Fo0_a.other W77 (Or.inr (slot_ne (ly10 hw) (ly24 hw) (by decide) pf0 pf4))
  replace Fo0_b := Fo0_b.other W77 (Or.inr (slot_ne (ly11 hw) (ly24 hw) (by decide) pf0 pf4))
  replace Fo0_c := Fo0_c.other W77 (Or.inr (slot_ne (ly12 hw) (ly24 hw) (by decide) pf0 pf4))
  replace Fo0_d := Fo0_d.other W77 (Or.inr (slot_ne (ly13 hw) (ly24 hw) (by decide) pf0 pf4))
  replace Fo0_e := Fo0_e.other W77 (Or.inr (slot_ne (ly14 hw) (ly24 hw) (by decide) pf0 pf4))
  replace Fo0_10 := Fo0_10.other W77 (Or.inr (slot_ne (ly16 hw) (ly24 hw) (by decide) pf0 pf4))
  replace Fo0_11 := Fo0_11.other W77 (Or.inr (slot_ne (ly17 hw) (ly24 hw) (by decide) pf0 pf4))
  replace Fo0_12 := Fo0_12.other W77 (Or.inr (slot_ne (ly18 hw) (ly24 hw) (by decide) pf0 pf4))
  replace Fo0_18 := Fo0_18.same W77
  replace Fo0_19 := Fo0_19.other W77 (Or.inr (slot_ne (ly25 hw) (ly24 hw) (by decide) pf3 pf4))
  replace Fo0_1a := Fo0_1a.other W77 (Or.inr (slot_ne (ly26 hw) (ly24 hw) (by decide) pf6 pf4))
  replace Fo0_1b := Fo0_1b.other W77 (Or.inr (slot_ne (ly27 hw) (ly24 hw) (by decide) pf0 pf4))
  replace V_b28 := V_b28.other W77 (own_ne (by omega))
  replace V_b35 := V_b35.other W77 (own_ne (by omega))
  replace V_b43 := V_b43.other W77 (own_ne (by omega))
  replace V_b51 := V_b51.other W77 (own_ne (by omega))
  replace V_b59 := V_b59.other W77 (own_ne (by omega))
  replace V_b295 := V_b295.other W77 (own_ne (by omega))
  replace V_b302 := V_b302.other W77 (own_ne (by omega))
  replace V_b309 := V_b309.other W77 (own_ne (by omega))
  replace V_b359 := V_b359.other W77 (own_ne (by omega))
  replace K := K.wr W77 (Or.inl (List.mem_of_getElem? (i := 0) rfl))
  replace N := Fr.snoc X77 N (by omega)
  clear st77 W77 X76 e76
  clear Fo0_18
  clear V_b359
  show own_WP p e below _ T77 (mkF m 364 _ [])
  refine own_go (fun _ => XS.aloadN X77.here hx rfl (hb hby d3_364) rfl rfl) ?_
  show own_WP p e below _ T77 (mkF m 365 _ [(.ref o0)])
  refine own_go (fun _ => XS.iloadN X77.here hx rfl (hb hby d3_365) rfl) ?_
  show own_WP p e below _ T77 (mkF m 366 #[.val (.ref o0), .val (.int x1), .val (.int x2), s3, s4, s5, s6, .val (.int x7), s8, .val (.int x9), s10, s11] [(.int x1), (.ref o0)])
  by_cases h366 : x1 < 0 ∨ 3 < x1.toInt
  · cases ((if_pos h366).symm.trans hv)
  replace hv := (if_neg h366).symm.trans hv
  obtain ⟨T78, h78, b366, X78, e78, E78, hb_b366, V_b366, st78⟩ := own_newJ X77 C e77 (aty := .long) (ty := .long) rfl rfl rfl (hw _ (List.mem_of_getElem? (i := 13) rfl)) (n := x1) (fun q => h366 (Or.inl q)) (cap := 3) (own_cap (k := 3) rfl (fun q => h366 (Or.inr q))) (by decide) (by decide) (by decide) (pc := 366) (Ls := #[.val (.ref o0), .val (.int x1), .val (.int x2), s3, s4, s5, s6, .val (.int x7), s8, .val (.int x9), s10, s11]) (rest := [(.ref o0)]) (hb hby d3_366)
  refine own_go st78 ?_
  have o_b309_b366 : b309 < b366 := by have q : b309 < h77.size := V_b309.lt; omega
  replace E_o0 := E_o0.ext E78
  replace Fo0_8 := Fo0_8.ext E78
  replace Fo0_a := Fo0_a.ext E78
  replace Fo0_b := Fo0_b.ext E78
  replace Fo0_c := Fo0_c.ext E78
  replace Fo0_d := Fo0_d.ext E78
  replace Fo0_e := Fo0_e.ext E78
  replace Fo0_10 := Fo0_10.ext E78
  replace Fo0_11 := Fo0_11.ext E78
  replace Fo0_12 := Fo0_12.ext E78
  replace Fo0_19 := Fo0_19.ext E78
  replace Fo0_1a := Fo0_1a.ext E78
  replace Fo0_1b := Fo0_1b.ext E78
  replace V_b28 := V_b28.ext E78
  replace V_b35 := V_b35.ext E78
  replace V_b43 := V_b43.ext E78
  replace V_b51 := V_b51.ext E78
  replace V_b59 := V_b59.ext E78
  replace V_b295 := V_b295.ext E78
  replace V_b302 := V_b302.ext E78
  replace V_b309 := V_b309.ext E78
  replace K := K.ext E78
  clear st78 E78 hb_b366 X77 e77
  show own_WP p e below _ T78 (mkF m 368 #[.val (.ref o0), .val (.int x1), .val (.int x2), s3, s4, s5, s6, .val (.int x7), s8, .val (.int x9), s10, s11] [(.ref b366), (.ref o0)])
  obtain ⟨T79, h79, X79, e79, W79, st79⟩ := putF X78 hx hZ hown (host := "") (Or.inl (hw _ (List.mem_of_getElem? (i := 88) rfl))) Via.refl e78 Fo0_19 E_o0 (Or.inr ⟨(hw _ (List.mem_of_getElem? (i := 89) rfl)), rfl, hnm⟩) (hw _ (List.mem_of_getElem? (i := 11) rfl)) (ty := (.array .long)) (by decide) rfl rfl (g := (mkF m 368 #[.val (.ref o0), .val (.int x1), .val (.int x2), s3, s4, s5, s6, .val (.int x7), s8, .val (.int x9), s10, s11] [(.ref b366), (.ref o0)])) rfl rfl (hb hby d3_368)
  refine own_go st79 ?_
  replace E_o0 := E_o0.wr W79
  replace Fo0_8 := Fo0_8.other W79 (Or.inr (slot_ne (ly9 hw) (ly25 hw) (by decide) pf1 pf3))
  replace Fo0_a := Fo0_a.other W79 (Or.inr (slot_ne (ly10 hw) (ly25 hw) (by decide) pf0 pf3))
  replace Fo0_b := Fo0_b.other W79 (Or.inr (slot_ne (ly11 hw) (ly25 hw) (by decide) pf0 pf3))
  replace Fo0_c := Fo0_c.other W79 (Or.inr (slot_ne (ly12 hw) (ly25 hw) (by decide) pf0 pf3))
  replace Fo0_d := Fo0_d.other W79 (Or.inr (slot_ne (ly13 hw) (ly25 hw) (by decide) pf0 pf3))
  replace Fo0_e := Fo0_e.other W79 (Or.inr (slot_ne (ly14 hw) (ly25 hw) (by decide) pf0 pf3))
  replace Fo0_10 := Fo0_10.other W79 (Or.inr (slot_ne (ly16 hw) (ly25 hw) (by decide) pf0 pf3))
  replace Fo0_11 := Fo0_11.other W79 (Or.inr (slot_ne (ly17 hw) (ly25 hw) (by decide) pf0 pf3))
  replace Fo0_12 := Fo0_12.other W79 (Or.inr (slot_ne (ly18 hw) (ly25 hw) (by decide) pf0 pf3))
  replace Fo0_19 := Fo0_19.same W79
  replace Fo0_1a := Fo0_1a.other W79 (Or.inr (slot_ne (ly26 hw) (ly25 hw) (by decide) pf6 pf3))
  replace Fo0_1b := Fo0_1b.other W79 (Or.inr (slot_ne (ly27 hw) (ly25 hw) (by decide) pf0 pf3))
  replace V_b28 := V_b28.other W79 (own_ne (by omega))
  replace V_b35 := V_b35.other W79 (own_ne (by omega))
  replace V_b43 := V_b43.other W79 (own_ne (by omega))
  replace V_b51 := V_b51.other W79 (own_ne (by omega))
  replace V_b59 := V_b59.other W79 (own_ne (by omega))
  replace V_b295 := V_b295.other W79 (own_ne (by omega))
  replace V_b302 := V_b302.other W79 (own_ne (by omega))
  replace V_b309 := V_b309.other W79 (own_ne (by omega))
  replace V_b366 := V_b366.other W79 (own_ne (by omega))
  replace K := K.wr W79 (Or.inl (List.mem_of_getElem? (i := 0) rfl))
  replace N := Fr.snoc X79 N (by omega)
  clear st79 W79 X78 e78
  clear Fo0_19
  clear V_b366
  exact b3_371 hw C Z0 rr hP X79 e79 N K o_o0_b28 o_b28_b35 o_b35_b43 o_b43_b51 o_b51_b59 o_b59_b295 o_b295_b302 o_b302_b309 g_o0 z_b28 E_o0 Fo0_8 Fo0_a Fo0_b Fo0_c Fo0_d Fo0_e Fo0_10 Fo0_11 Fo0_12 Fo0_1a Fo0_1b V_b28 V_b35 V_b43 V_b51 V_b59 V_b295 V_b302 V_b309 x1 x2 s3 hs3 s4 hs4 s5 hs5 s6 hs6 x7 s8 hs8 x9 s10 hs10 s11 hs11 hv
def f3_314 (c_o0_nodes : Int32) (v_b28 : List Int32) (v_b35 : List Int32) (v_b43 : List Int32) (v_b51 : List Int32) (v_b59 : List Int32) (v_b295 : List Int32) (v_b302 : List Int32) (v_b309 : List Int32) (x1 : Int32) : Option (Int32 × (List Int32) × (List Int32) × (List Int32) × (List Int32) × (List Int32) × (List Int32) × (List Int32) × (List Int32) × (List Int32)) := (if x1 < 0 ∨ 3 < x1.toInt then none else (if x1 < 0 ∨ 3 < x1.toInt then none else (if x1 < 0 ∨ 3 < x1.toInt then none else (if x1 < 0 ∨ 3 < x1.toInt then none else (f3_342 c_o0_nodes v_b28 v_b35 v_b43 v_b51 v_b59 v_b295 v_b302 v_b309 x1)))))
set_option maxRecDepth 65536 in
set_option maxHeartbeats 40000000 in
theorem b3_314 {p : Program} {l : Launch} {e : Env} {s : State} {m : MethodId} {args : Array Value} {below : List Frame} {meth : Method} {c : Code} {Z : State} {a0 : Array Value} {h0 : Heap} {n0 : Nat} {P : Option Value → Heap → List Loc → Prop} (hw : ∀ d ∈ tables_1, d.before a0 Z = true) (C : own_Ctx p s m meth c Z (⟨"com/example/gridfare/gridfare/engine/ResidualNetwork", "<init>", "(II[I[I[I[J)V"⟩ : MethodName) prog_42_method_1_code 12 none) (Z0 : n0 ≤ h0.size) {o3 : Nat} {o4 : Nat} {o5 : Nat} {o0 : Nat} {o6 : Nat} {ta : List Int32} {he : List Int32} {ca : List Int32} {s_scale : Int64} {co : List Int64} (rr : Int32 × (List Int32) × (List Int32) × (List Int32) × (List Int32) × (List Int32) × (List Int32) × (List Int32) × (List Int32) × (List Int32)) (hP : ∀ v h L, Fr n0 L → Keep h0 h [o0] → E3 Z h0 o3 o4 o5 o0 o6 ta he ca s_scale co rr v h → P v h L)
    {T : State} {locs : List Loc} {h : Heap} {b28 : Nat} {b35 : Nat} {b43 : Nat} {b51 : Nat} {b59 : Nat} {b295 : Nat} {b302 : Nat} {b309 : Nat} {c_o0_nodes : Int32} {v_b28 : List Int32} {v_b35 : List Int32} {v_b43 : List Int32} {v_b51 : List Int32} {v_b59 : List Int32} {v_b295 : List Int32} {v_b302 : List Int32} {v_b309 : List Int32} (X : Stand p l e rmR3 s m args below meth c T locs 10 52) (e0 : T.heap = h) (N : Fr n0 locs) (K : Keep h0 h [o0]) (o_o0_b28 : o0 < b28) (o_b28_b35 : b28 < b35) (o_b35_b43 : b35 < b43) (o_b43_b51 : b43 < b51) (o_b51_b59 : b51 < b59) (o_b59_b295 : b59 < b295) (o_b295_b302 : b295 < b302) (o_b302_b309 : b302 < b309) (g_o0 : n0 ≤ o0) (z_b28 : h0.size ≤ b28) (E_o0 : Exa Z h o0 "com/example/gridfare/gridfare/engine/ResidualNetwork") (Fo0_8 : Fld Z h o0 "com/example/gridfare/gridfare/engine/ResidualNetwork" "nodes" "I" (.int c_o0_nodes)) (Fo0_a : Fld Z h o0 "com/example/gridfare/gridfare/engine/ResidualNetwork" "firstArc" "[I" (.ref b28)) (Fo0_b : Fld Z h o0 "com/example/gridfare/gridfare/engine/ResidualNetwork" "added" "[I" (.ref b35)) (Fo0_c : Fld Z h o0 "com/example/gridfare/gridfare/engine/ResidualNetwork" "head" "[I" (.ref b43)) (Fo0_d : Fld Z h o0 "com/example/gridfare/gridfare/engine/ResidualNetwork" "twin" "[I" (.ref b51)) (Fo0_e : Fld Z h o0 "com/example/gridfare/gridfare/engine/ResidualNetwork" "residual" "[I" (.ref b59)) (Fo0_10 : Fld Z h o0 "com/example/gridfare/gridfare/engine/ResidualNetwork" "level" "[I" (.ref b295)) (Fo0_11 : Fld Z h o0 "com/example/gridfare/gridfare/engine/ResidualNetwork" "levelled" "[I" (.ref b302)) (Fo0_12 : Fld Z h o0 "com/example/gridfare/gridfare/engine/ResidualNetwork" "arcInto" "[I" (.ref b309)) (Fo0_13 : Fld Z h o0 "com/example/gridfare/gridfare/engine/ResidualNetwork" "price" "[J" .null) (Fo0_14 : Fld Z h o0 "com/example/gridfare/gridfare/engine/ResidualNetwork" "excess" "[J" .null) (Fo0_15 : Fld Z h o0 "com/example/gridfare/gridfare/engine/ResidualNetwork" "active" "[I" .null) (Fo0_16 : Fld Z h o0 "com/example/gridfare/gridfare/engine/ResidualNetwork" "queued" "[Z" .null) (Fo0_17 : Fld Z h o0 "com/example/gridfare/gridfare/engine/ResidualNetwork" "nearestDeficit" "Lcom/example/gridfare/gridfare/engine/BucketQueue;" .null) (Fo0_18 : Fld Z h o0 "com/example/gridfare/gridfare/engine/ResidualNetwork" "settled" "[Z" .null) (Fo0_19 : Fld Z h o0 "com/example/gridfare/gridfare/engine/ResidualNetwork" "potential" "[J" .null) (Fo0_1a : Fld Z h o0 "com/example/gridfare/gridfare/engine/ResidualNetwork" "lowering" "Lcom/example/gridfare/gridfare/engine/LoweringTree;" .null) (Fo0_1b : Fld Z h o0 "com/example/gridfare/gridfare/engine/ResidualNetwork" "currentArc" "[I" .null) (V_b28 : own_AI Z h b28 .int v_b28) (V_b35 : own_AI Z h b35 .int v_b35) (V_b43 : own_AI Z h b43 .int v_b43) (V_b51 : own_AI Z h b51 .int v_b51) (V_b59 : own_AI Z h b59 .int v_b59) (V_b295 : own_AI Z h b295 .int v_b295) (V_b302 : own_AI Z h b302 .int v_b302) (V_b309 : own_AI Z h b309 .int v_b309) (x1 : Int32) (x2 : Int32) (s3 : Slot) (hs3 : One s3) (s4 : Slot) (hs4 : One s4) (s5 : Slot) (hs5 : One s5) (s6 : Slot) (hs6 : One s6) (x7 : Int32) (s8 : Slot) (hs8 : One s8) (x9 : Int32) (s10 : Slot) (hs10 : One s10) (s11 : Slot) (hs11 : One s11) (hv : f3_314 c_o0_nodes v_b28 v_b35 v_b43 v_b51 v_b59 v_b295 v_b302 v_b309 x1 = some rr) :
    own_WP p e below (own_Q s P rmR3.cells rmR3.slots) T (mkF m 314 #[.val (.ref o0), .val (.int x1), .val (.int x2), s3, s4, s5, s6, .val (.int x7), s8, .val (.int x9), s10, s11] []) := by
  obtain ⟨hx, hZ, hby, hml, hown, hnm, hret, hlk⟩ := id C
  replace hown : s.vm.findClass "com/example/gridfare/gridfare/engine/ResidualNetwork" = some m.cls := hown
  unfold f3_314 at hv
  show own_WP p e below _ T (mkF m 314 #[.val (.ref o0), .val (.int x1), .val (.int x2), s3, s4, s5, s6, .val (.int x7), s8, .val (.int x9), s10, s11] [])
  refine own_go (fun _ => XS.aloadN X.here hx rfl (hb hby d3_314) rfl rfl) ?_
  show own_WP p e below _ T (mkF m 315 _ [(.ref o0)])
  refine own_go (fun _ => XS.iloadN X.here hx rfl (hb hby d3_315) rfl) ?_
  show own_WP p e below _ T (mkF m 316 #[.val (.ref o0), .val (.int x1), .val (.int x2), s3, s4, s5, s6, .val (.int x7), s8, .val (.int x9), s10, s11] [(.int x1), (.ref o0)])
  by_cases h316 : x1 < 0 ∨ 3 < x1.toInt
  · cases ((if_pos h316).symm.trans hv)
  replace hv := (if_neg h316).symm.trans hv
  obtain ⟨T65, h65, b316, X65, e65, E65, hb_b316, V_b316, st65⟩ := own_newJ X C e0 (aty := .long) (ty := .long) rfl rfl rfl (hw _ (List.mem_of_getElem? (i := 13) rfl)) (n := x1) (fun q => h316 (Or.inl q)) (cap := 3) (own_cap (k := 3) rfl (fun q => h316 (Or.inr q))) (by decide) (by decide) (by decide) (pc := 316) (Ls := #[.val (.ref o0), .val (.int x1), .val (.int x2), s3, s4, s5, s6, .val (.int x7), s8, .val (.int x9), s10, s11]) (rest := [(.ref o0)]) (hb hby d3_316)
  refine own_go st65 ?_
  have o_b309_b316 : b309 < b316 := by have q : b309 < h.size := V_b309.lt; omega
  replace E_o0 := E_o0.ext E65
  replace Fo0_8 := Fo0_8.ext E65
  replace Fo0_a := Fo0_a.ext E65
  replace Fo0_b := Fo0_b.ext E65
  replace Fo0_c := Fo0_c.ext E65
  replace Fo0_d := Fo0_d.ext E65
  replace Fo0_e := Fo0_e.ext E65
  replace Fo0_10 := Fo0_10.ext E65
  replace Fo0_11 := Fo0_11.ext E65
  replace Fo0_12 := Fo0_12.ext E65
  replace Fo0_13 := Fo0_13.ext E65
  replace Fo0_14 := Fo0_14.ext E65
  replace Fo0_15 := Fo0_15.ext E65
  replace Fo0_16 := Fo0_16.ext E65
  replace Fo0_17 := Fo0_17.ext E65
  replace Fo0_18 := Fo0_18.ext E65
  replace Fo0_19 := Fo0_19.ext E65
  replace Fo0_1a := Fo0_1a.ext E65
  replace Fo0_1b := Fo0_1b.ext E65
  replace V_b28 := V_b28.ext E65
  replace V_b35 := V_b35.ext E65
  replace V_b43 := V_b43.ext E65
  replace V_b51 := V_b51.ext E65
  replace V_b59 := V_b59.ext E65
  replace V_b295 := V_b295.ext E65
  replace V_b302 := V_b302.ext E65
  replace V_b309 := V_b309.ext E65
  replace K := K.ext E65
  clear st65 E65 hb_b316 X e0
  show own_WP p e below _ T65 (mkF m 318 #[.val (.ref o0), .val (.int x1), .val (.int x2), s3, s4, s5, s6, .val (.int x7), s8, .val (.int x9), s10, s11] [(.ref b316), (.ref o0)])
  obtain ⟨T66, h66, X66, e66, W66, st66⟩ := putF X65 hx hZ hown (host := "") (Or.inl (hw _ (List.mem_of_getElem? (i := 57) rfl))) Via.refl e65 Fo0_13 E_o0 (Or.inr ⟨(hw _ (List.mem_of_getElem? (i := 58) rfl)), rfl, hnm⟩) (hw _ (List.mem_of_getElem? (i := 11) rfl)) (ty := (.array .long)) (by decide) rfl rfl (g := (mkF m 318 #[.val (.ref o0), .val (.int x1), .val (.int x2), s3, s4, s5, s6, .val (.int x7), s8, .val (.int x9), s10, s11] [(.ref b316), (.ref o0)])) rfl rfl (hb hby d3_318)
  refine own_go st66 ?_
  replace E_o0 := E_o0.wr W66
  replace Fo0_8 := Fo0_8.other W66 (Or.inr (slot_ne (ly9 hw) (ly19 hw) (by decide) pf1 pf3))
  replace Fo0_a := Fo0_a.other W66 (Or.inr (slot_ne (ly10 hw) (ly19 hw) (by decide) pf0 pf3))
  replace Fo0_b := Fo0_b.other W66 (Or.inr (slot_ne (ly11 hw) (ly19 hw) (by decide) pf0 pf3))
  replace Fo0_c := Fo0_c.other W66 (Or.inr (slot_ne (ly12 hw) (ly19 hw) (by decide) pf0 pf3))
  replace Fo0_d := Fo0_d.other W66 (Or.inr (slot_ne (ly13 hw) (ly19 hw) (by decide) pf0 pf3))
  replace Fo0_e := Fo0_e.other W66 (Or.inr (slot_ne (ly14 hw) (ly19 hw) (by decide) pf0 pf3))
  replace Fo0_10 := Fo0_10.other W66 (Or.inr (slot_ne (ly16 hw) (ly19 hw) (by decide) pf0 pf3))
  replace Fo0_11 := Fo0_11.other W66 (Or.inr (slot_ne (ly17 hw) (ly19 hw) (by decide) pf0 pf3))
  replace Fo0_12 := Fo0_12.other W66 (Or.inr (slot_ne (ly18 hw) (ly19 hw) (by decide) pf0 pf3))
  replace Fo0_13 := Fo0_13.same W66
  replace Fo0_14 := Fo0_14.other W66 (Or.inr (slot_ne (ly20 hw) (ly19 hw) (by decide) pf3 pf3))
  replace Fo0_15 := Fo0_15.other W66 (Or.inr (slot_ne (ly21 hw) (ly19 hw) (by decide) pf0 pf3))
  replace Fo0_16 := Fo0_16.other W66 (Or.inr (slot_ne (ly22 hw) (ly19 hw) (by decide) pf4 pf3))
  replace Fo0_17 := Fo0_17.other W66 (Or.inr (slot_ne (ly23 hw) (ly19 hw) (by decide) pf5 pf3))
  replace Fo0_18 := Fo0_18.other W66 (Or.inr (slot_ne (ly24 hw) (ly19 hw) (by decide) pf4 pf3))
  replace Fo0_19 := Fo0_19.other W66 (Or.inr (slot_ne (ly25 hw) (ly19 hw) (by decide) pf3 pf3))
  replace Fo0_1a := Fo0_1a.other W66 (Or.inr (slot_ne (ly26 hw) (ly19 hw) (by decide) pf6 pf3))
  replace Fo0_1b := Fo0_1b.other W66 (Or.inr (slot_ne (ly27 hw) (ly19 hw) (by decide) pf0 pf3))
  replace V_b28 := V_b28.other W66 (own_ne (by omega))
  replace V_b35 := V_b35.other W66 (own_ne (by omega))
  replace V_b43 := V_b43.other W66 (own_ne (by omega))
  replace V_b51 := V_b51.other W66 (own_ne (by omega))
  replace V_b59 := V_b59.other W66 (own_ne (by omega))
  replace V_b295 := V_b295.other W66 (own_ne (by omega))
  replace V_b302 := V_b302.other W66 (own_ne (by omega))
  replace V_b309 := V_b309.other W66 (own_ne (by omega))
  replace V_b316 := V_b316.other W66 (own_ne (by omega))
  replace K := K.wr W66 (Or.inl (List.mem_of_getElem? (i := 0) rfl))
  replace N := Fr.snoc X66 N (by omega)
  clear st66 W66 X65 e65
  clear Fo0_13
  clear V_b316
  show own_WP p e below _ T66 (mkF m 321 _ [])
  refine own_go (fun _ => XS.aloadN X66.here hx rfl (hb hby d3_321) rfl rfl) ?_
  show own_WP p e below _ T66 (mkF m 322 _ [(.ref o0)])
  refine own_go (fun _ => XS.iloadN X66.here hx rfl (hb hby d3_322) rfl) ?_
  show own_WP p e below _ T66 (mkF m 323 #[.val (.ref o0), .val (.int x1), .val (.int x2), s3, s4, s5, s6, .val (.int x7), s8, .val (.int x9), s10, s11] [(.int x1), (.ref o0)])
  by_cases h323 : x1 < 0 ∨ 3 < x1.toInt
  · cases ((if_pos h323).symm.trans hv)
  replace hv := (if_neg h323).symm.trans hv
  obtain ⟨T67, h67, b323, X67, e67, E67, hb_b323, V_b323, st67⟩ := own_newJ X66 C e66 (aty := .long) (ty := .long) rfl rfl rfl (hw _ (List.mem_of_getElem? (i := 13) rfl)) (n := x1) (fun q => h323 (Or.inl q)) (cap := 3) (own_cap (k := 3) rfl (fun q => h323 (Or.inr q))) (by decide) (by decide) (by decide) (pc := 323) (Ls := #[.val (.ref o0), .val (.int x1), .val (.int x2), s3, s4, s5, s6, .val (.int x7), s8, .val (.int x9), s10, s11]) (rest := [(.ref o0)]) (hb hby d3_323)
  refine own_go st67 ?_
  have o_b309_b323 : b309 < b323 := by have q : b309 < h66.size := V_b309.lt; omega
  replace E_o0 := E_o0.ext E67
  replace Fo0_8 := Fo0_8.ext E67
  replace Fo0_a := Fo0_a.ext E67
  replace Fo0_b := Fo0_b.ext E67
  replace Fo0_c := Fo0_c.ext E67
  replace Fo0_d := Fo0_d.ext E67
  replace Fo0_e := Fo0_e.ext E67
  replace Fo0_10 := Fo0_10.ext E67
  replace Fo0_11 := Fo0_11.ext E67
  replace Fo0_12 := Fo0_12.ext E67
  replace Fo0_14 := Fo0_14.ext E67
  replace Fo0_15 := Fo0_15.ext E67
  replace Fo0_16 := Fo0_16.ext E67
  replace Fo0_17 := Fo0_17.ext E67
  replace Fo0_18 := Fo0_18.ext E67
  replace Fo0_19 := Fo0_19.ext E67
  replace Fo0_1a := Fo0_1a.ext E67
  replace Fo0_1b := Fo0_1b.ext E67
  replace V_b28 := V_b28.ext E67
  replace V_b35 := V_b35.ext E67
  replace V_b43 := V_b43.ext E67
  replace V_b51 := V_b51.ext E67
  replace V_b59 := V_b59.ext E67
  replace V_b295 := V_b295.ext E67
  replace V_b302 := V_b302.ext E67
  replace V_b309 := V_b309.ext E67
  replace K := K.ext E67
  clear st67 E67 hb_b323 X66 e66
  show own_WP p e below _ T67 (mkF m 325 #[.val (.ref o0), .val (.int x1), .val (.int x2), s3, s4, s5, s6, .val (.int x7), s8, .val (.int x9), s10, s11] [(.ref b323), (.ref o0)])
  obtain ⟨T68, h68, X68, e68, W68, st68⟩ := putF X67 hx hZ hown (host := "") (Or.inl (hw _ (List.mem_of_getElem? (i := 59) rfl))) Via.refl e67 Fo0_14 E_o0 (Or.inr ⟨(hw _ (List.mem_of_getElem? (i := 60) rfl)), rfl, hnm⟩) (hw _ (List.mem_of_getElem? (i := 11) rfl)) (ty := (.array .long)) (by decide) rfl rfl (g := (mkF m 325 #[.val (.ref o0), .val (.int x1), .val (.int x2), s3, s4, s5, s6, .val (.int x7), s8, .val (.int x9), s10, s11] [(.ref b323), (.ref o0)])) rfl rfl (hb hby d3_325)
  refine own_go st68 ?_
  replace E_o0 := E_o0.wr W68
  replace Fo0_8 := Fo0_8.other W68 (Or.inr (slot_ne (ly9 hw) (ly20 hw) (by decide) pf1 pf3))
  replace Fo0_a := Fo0_a.other W68 (Or.inr (slot_ne (ly10 hw) (ly20 hw) (by decide) pf0 pf3))
  replace Fo0_b := Fo0_b.other W68 (Or.inr (slot_ne (ly11 hw) (ly20 hw) (by decide) pf0 pf3))
  replace Fo0_c := Fo0_c.other W68 (Or.inr (slot_ne (ly12 hw) (ly20 hw) (by decide) pf0 pf3))
  replace Fo0_d := Fo0_d.other W68 (Or.inr (slot_ne (ly13 hw) (ly20 hw) (by decide) pf0 pf3))
  replace Fo0_e := Fo0_e.other W68 (Or.inr (slot_ne (ly14 hw) (ly20 hw) (by decide) pf0 pf3))
  replace Fo0_10 := Fo0_10.other W68 (Or.inr (slot_ne (ly16 hw) (ly20 hw) (by decide) pf0 pf3))
  replace Fo0_11 := Fo0_11.other W68 (Or.inr (slot_ne (ly17 hw) (ly20 hw) (by decide) pf0 pf3))
  replace Fo0_12 := Fo0_12.other W68 (Or.inr (slot_ne (ly18 hw) (ly20 hw) (by decide) pf0 pf3))
  replace Fo0_14 := Fo0_14.same W68
  replace Fo0_15 := Fo0_15.other W68 (Or.inr (slot_ne (ly21 hw) (ly20 hw) (by decide) pf0 pf3))
  replace Fo0_16 := Fo0_16.other W68 (Or.inr (slot_ne (ly22 hw) (ly20 hw) (by decide) pf4 pf3))
  replace Fo0_17 := Fo0_17.other W68 (Or.inr (slot_ne (ly23 hw) (ly20 hw) (by decide) pf5 pf3))
  replace Fo0_18 := Fo0_18.other W68 (Or.inr (slot_ne (ly24 hw) (ly20 hw) (by decide) pf4 pf3))
  replace Fo0_19 := Fo0_19.other W68 (Or.inr (slot_ne (ly25 hw) (ly20 hw) (by decide) pf3 pf3))
  replace Fo0_1a := Fo0_1a.other W68 (Or.inr (slot_ne (ly26 hw) (ly20 hw) (by decide) pf6 pf3))
  replace Fo0_1b := Fo0_1b.other W68 (Or.inr (slot_ne (ly27 hw) (ly20 hw) (by decide) pf0 pf3))
  replace V_b28 := V_b28.other W68 (own_ne (by omega))
  replace V_b35 := V_b35.other W68 (own_ne (by omega))
  replace V_b43 := V_b43.other W68 (own_ne (by omega))
  replace V_b51 := V_b51.other W68 (own_ne (by omega))
  replace V_b59 := V_b59.other W68 (own_ne (by omega))
  replace V_b295 := V_b295.other W68 (own_ne (by omega))
  replace V_b302 := V_b302.other W68 (own_ne (by omega))
  replace V_b309 := V_b309.other W68 (own_ne (by omega))
  replace V_b323 := V_b323.other W68 (own_ne (by omega))
  replace K := K.wr W68 (Or.inl (List.mem_of_getElem? (i := 0) rfl))
  replace N := Fr.snoc X68 N (by omega)
  clear st68 W68 X67 e67
  clear Fo0_14
  clear V_b323
  show own_WP p e below _ T68 (mkF m 328 _ [])
  refine own_go (fun _ => XS.aloadN X68.here hx rfl (hb hby d3_328) rfl rfl) ?_
  show own_WP p e below _ T68 (mkF m 329 _ [(.ref o0)])
  refine own_go (fun _ => XS.iloadN X68.here hx rfl (hb hby d3_329) rfl) ?_
  show own_WP p e below _ T68 (mkF m 330 #[.val (.ref o0), .val (.int x1), .val (.int x2), s3, s4, s5, s6, .val (.int x7), s8, .val (.int x9), s10, s11] [(.int x1), (.ref o0)])
  by_cases h330 : x1 < 0 ∨ 3 < x1.toInt
  · cases ((if_pos h330).symm.trans hv)
  replace hv := (if_neg h330).symm.trans hv
  obtain ⟨T69, h69, b330, X69, e69, E69, hb_b330, V_b330, st69⟩ := own_newI X68 C e68 (aty := .int) (ty := .int) rfl rfl rfl (hw _ (List.mem_of_getElem? (i := 2) rfl)) (n := x1) (fun q => h330 (Or.inl q)) (cap := 3) (own_cap (k := 3) rfl (fun q => h330 (Or.inr q))) (by decide) (by decide) (by decide) (pc := 330) (Ls := #[.val (.ref o0), .val (.int x1), .val (.int x2), s3, s4, s5, s6, .val (.int x7), s8, .val (.int x9), s10, s11]) (rest := [(.ref o0)]) (hb hby d3_330)
  refine own_go st69 ?_
  have o_b309_b330 : b309 < b330 := by have q : b309 < h68.size := V_b309.lt; omega
  replace E_o0 := E_o0.ext E69
  replace Fo0_8 := Fo0_8.ext E69
  replace Fo0_a := Fo0_a.ext E69
  replace Fo0_b := Fo0_b.ext E69
  replace Fo0_c := Fo0_c.ext E69
  replace Fo0_d := Fo0_d.ext E69
  replace Fo0_e := Fo0_e.ext E69
  replace Fo0_10 := Fo0_10.ext E69
  replace Fo0_11 := Fo0_11.ext E69
  replace Fo0_12 := Fo0_12.ext E69
  replace Fo0_15 := Fo0_15.ext E69
  replace Fo0_16 := Fo0_16.ext E69
  replace Fo0_17 := Fo0_17.ext E69
  replace Fo0_18 := Fo0_18.ext E69
  replace Fo0_19 := Fo0_19.ext E69
  replace Fo0_1a := Fo0_1a.ext E69
  replace Fo0_1b := Fo0_1b.ext E69
  replace V_b28 := V_b28.ext E69
  replace V_b35 := V_b35.ext E69
  replace V_b43 := V_b43.ext E69
  replace V_b51 := V_b51.ext E69
  replace V_b59 := V_b59.ext E69
  replace V_b295 := V_b295.ext E69
  replace V_b302 := V_b302.ext E69
  replace V_b309 := V_b309.ext E69
  replace K := K.ext E69
  clear st69 E69 hb_b330 X68 e68
  show own_WP p e below _ T69 (mkF m 332 #[.val (.ref o0), .val (.int x1), .val (.int x2), s3, s4, s5, s6, .val (.int x7), s8, .val (.int x9), s10, s11] [(.ref b330), (.ref o0)])
  obtain ⟨T70, h70, X70, e70, W70, st70⟩ := putF X69 hx hZ hown (host := "") (Or.inl (hw _ (List.mem_of_getElem? (i := 61) rfl))) Via.refl e69 Fo0_15 E_o0 (Or.inr ⟨(hw _ (List.mem_of_getElem? (i := 62) rfl)), rfl, hnm⟩) (hw _ (List.mem_of_getElem? (i := 11) rfl)) (ty := (.array .int)) (by decide) rfl rfl (g := (mkF m 332 #[.val (.ref o0), .val (.int x1), .val (.int x2), s3, s4, s5, s6, .val (.int x7), s8, .val (.int x9), s10, s11] [(.ref b330), (.ref o0)])) rfl rfl (hb hby d3_332)
  refine own_go st70 ?_
  replace E_o0 := E_o0.wr W70
  replace Fo0_8 := Fo0_8.other W70 (Or.inr (slot_ne (ly9 hw) (ly21 hw) (by decide) pf1 pf0))
  replace Fo0_a := Fo0_a.other W70 (Or.inr (slot_ne (ly10 hw) (ly21 hw) (by decide) pf0 pf0))
  replace Fo0_b := Fo0_b.other W70 (Or.inr (slot_ne (ly11 hw) (ly21 hw) (by decide) pf0 pf0))
  replace Fo0_c := Fo0_c.other W70 (Or.inr (slot_ne (ly12 hw) (ly21 hw) (by decide) pf0 pf0))
  replace Fo0_d := Fo0_d.other W70 (Or.inr (slot_ne (ly13 hw) (ly21 hw) (by decide) pf0 pf0))
  replace Fo0_e := Fo0_e.other W70 (Or.inr (slot_ne (ly14 hw) (ly21 hw) (by decide) pf0 pf0))
  replace Fo0_10 := Fo0_10.other W70 (Or.inr (slot_ne (ly16 hw) (ly21 hw) (by decide) pf0 pf0))
  replace Fo0_11 := Fo0_11.other W70 (Or.inr (slot_ne (ly17 hw) (ly21 hw) (by decide) pf0 pf0))
  replace Fo0_12 := Fo0_12.other W70 (Or.inr (slot_ne (ly18 hw) (ly21 hw) (by decide) pf0 pf0))
  replace Fo0_15 := Fo0_15.same W70
  replace Fo0_16 := Fo0_16.other W70 (Or.inr (slot_ne (ly22 hw) (ly21 hw) (by decide) pf4 pf0))
  replace Fo0_17 := Fo0_17.other W70 (Or.inr (slot_ne (ly23 hw) (ly21 hw) (by decide) pf5 pf0))
  replace Fo0_18 := Fo0_18.other W70 (Or.inr (slot_ne (ly24 hw) (ly21 hw) (by decide) pf4 pf0))
  replace Fo0_19 := Fo0_19.other W70 (Or.inr (slot_ne (ly25 hw) (ly21 hw) (by decide) pf3 pf0))
  replace Fo0_1a := Fo0_1a.other W70 (Or.inr (slot_ne (ly26 hw) (ly21 hw) (by decide) pf6 pf0))
  replace Fo0_1b := Fo0_1b.other W70 (Or.inr (slot_ne (ly27 hw) (ly21 hw) (by decide) pf0 pf0))
  replace V_b28 := V_b28.other W70 (own_ne (by omega))
  replace V_b35 := V_b35.other W70 (own_ne (by omega))
  replace V_b43 := V_b43.other W70 (own_ne (by omega))
  replace V_b51 := V_b51.other W70 (own_ne (by omega))
  replace V_b59 := V_b59.other W70 (own_ne (by omega))
  replace V_b295 := V_b295.other W70 (own_ne (by omega))
  replace V_b302 := V_b302.other W70 (own_ne (by omega))
  replace V_b309 := V_b309.other W70 (own_ne (by omega))
  replace V_b330 := V_b330.other W70 (own_ne (by omega))
  replace K := K.wr W70 (Or.inl (List.mem_of_getElem? (i := 0) rfl))
  replace N := Fr.snoc X70 N (by omega)
  clear st70 W70 X69 e69
  clear Fo0_15
  clear V_b330
  show own_WP p e below _ T70 (mkF m 335 _ [])
  refine own_go (fun _ => XS.aloadN X70.here hx rfl (hb hby d3_335) rfl rfl) ?_
  show own_WP p e below _ T70 (mkF m 336 _ [(.ref o0)])
  refine own_go (fun _ => XS.iloadN X70.here hx rfl (hb hby d3_336) rfl) ?_
  show own_WP p e below _ T70 (mkF m 337 #[.val (.ref o0), .val (.int x1), .val (.int x2), s3, s4, s5, s6, .val (.int x7), s8, .val (.int x9), s10, s11] [(.int x1), (.ref o0)])
  by_cases h337 : x1 < 0 ∨ 3 < x1.toInt
  · cases ((if_pos h337).symm.trans hv)
  replace hv := (if_neg h337).symm.trans hv
  obtain ⟨T71, h71, b337, X71, e71, E71, hb_b337, V_b337, st71⟩ := own_newI X70 C e70 (aty := .boolean) (ty := .boolean) rfl rfl rfl (hw _ (List.mem_of_getElem? (i := 63) rfl)) (n := x1) (fun q => h337 (Or.inl q)) (cap := 3) (own_cap (k := 3) rfl (fun q => h337 (Or.inr q))) (by decide) (by decide) (by decide) (pc := 337) (Ls := #[.val (.ref o0), .val (.int x1), .val (.int x2), s3, s4, s5, s6, .val (.int x7), s8, .val (.int x9), s10, s11]) (rest := [(.ref o0)]) (hb hby d3_337)
  refine own_go st71 ?_
  have o_b309_b337 : b309 < b337 := by have q : b309 < h70.size := V_b309.lt; omega
  replace E_o0 := E_o0.ext E71
  replace Fo0_8 := Fo0_8.ext E71
  replace Fo0_a := Fo0_a.ext E71
  replace Fo0_b := Fo0_b.ext E71
  replace Fo0_c := Fo0_c.ext E71
  replace Fo0_d := Fo0_d.ext E71
  replace Fo0_e := Fo0_e.ext E71
  replace Fo0_10 := Fo0_10.ext E71
  replace Fo0_11 := Fo0_11.ext E71
  replace Fo0_12 := Fo0_12.ext E71
  replace Fo0_16 := Fo0_16.ext E71
  replace Fo0_17 := Fo0_17.ext E71
  replace Fo0_18 := Fo0_18.ext E71
  replace Fo0_19 := Fo0_19.ext E71
  replace Fo0_1a := Fo0_1a.ext E71
  replace Fo0_1b := Fo0_1b.ext E71
  replace V_b28 := V_b28.ext E71
  replace V_b35 := V_b35.ext E71
  replace V_b43 := V_b43.ext E71
  replace V_b51 := V_b51.ext E71
  replace V_b59 := V_b59.ext E71
  replace V_b295 := V_b295.ext E71
  replace V_b302 := V_b302.ext E71
  replace V_b309 := V_b309.ext E71
  replace K := K.ext E71
  clear st71 E71 hb_b337 X70 e70
  show own_WP p e below _ T71 (mkF m 339 #[.val (.ref o0), .val (.int x1), .val (.int x2), s3, s4, s5, s6, .val (.int x7), s8, .val (.int x9), s10, s11] [(.ref b337), (.ref o0)])
  obtain ⟨T72, h72, X72, e72, W72, st72⟩ := putF X71 hx hZ hown (host := "") (Or.inl (hw _ (List.mem_of_getElem? (i := 64) rfl))) Via.refl e71 Fo0_16 E_o0 (Or.inr ⟨(hw _ (List.mem_of_getElem? (i := 65) rfl)), rfl, hnm⟩) (hw _ (List.mem_of_getElem? (i := 11) rfl)) (ty := (.array .boolean)) (by decide) rfl rfl (g := (mkF m 339 #[.val (.ref o0), .val (.int x1), .val (.int x2), s3, s4, s5, s6, .val (.int x7), s8, .val (.int x9), s10, s11] [(.ref b337), (.ref o0)])) rfl rfl (hb hby d3_339)
  refine own_go st72 ?_
  replace E_o0 := E_o0.wr W72
  replace Fo0_8 := Fo0_8.other W72 (Or.inr (slot_ne (ly9 hw) (ly22 hw) (by decide) pf1 pf4))
  replace Fo0_a := Fo0_a.other W72 (Or.inr (slot_ne (ly10 hw) (ly22 hw) (by decide) pf0 pf4))
  replace Fo0_b := Fo0_b.other W72 (Or.inr (slot_ne (ly11 hw) (ly22 hw) (by decide) pf0 pf4))
  replace Fo0_c := Fo0_c.other W72 (Or.inr (slot_ne (ly12 hw) (ly22 hw) (by decide) pf0 pf4))
  replace Fo0_d := Fo0_d.other W72 (Or.inr (slot_ne (ly13 hw) (ly22 hw) (by decide) pf0 pf4))
  replace Fo0_e := Fo0_e.other W72 (Or.inr (slot_ne (ly14 hw) (ly22 hw) (by decide) pf0 pf4))
  replace Fo0_10 := Fo0_10.other W72 (Or.inr (slot_ne (ly16 hw) (ly22 hw) (by decide) pf0 pf4))
  replace Fo0_11 := Fo0_11.other W72 (Or.inr (slot_ne (ly17 hw) (ly22 hw) (by decide) pf0 pf4))
  replace Fo0_12 := Fo0_12.other W72 (Or.inr (slot_ne (ly18 hw) (ly22 hw) (by decide) pf0 pf4))
  replace Fo0_16 := Fo0_16.same W72
  replace Fo0_17 := Fo0_17.other W72 (Or.inr (slot_ne (ly23 hw) (ly22 hw) (by decide) pf5 pf4))
  replace Fo0_18 := Fo0_18.other W72 (Or.inr (slot_ne (ly24 hw) (ly22 hw) (by decide) pf4 pf4))
  replace Fo0_19 := Fo0_19.other W72 (Or.inr (slot_ne (ly25 hw) (ly22 hw) (by decide) pf3 pf4))
  replace Fo0_1a := Fo0_1a.other W72 (Or.inr (slot_ne (ly26 hw) (ly22 hw) (by decide) pf6 pf4))
  replace Fo0_1b := Fo0_1b.other W72 (Or.inr (slot_ne (ly27 hw) (ly22 hw) (by decide) pf0 pf4))
  replace V_b28 := V_b28.other W72 (own_ne (by omega))
  replace V_b35 := V_b35.other W72 (own_ne (by omega))
  replace V_b43 := V_b43.other W72 (own_ne (by omega))
  replace V_b51 := V_b51.other W72 (own_ne (by omega))
  replace V_b59 := V_b59.other W72 (own_ne (by omega))
  replace V_b295 := V_b295.other W72 (own_ne (by omega))
  replace V_b302 := V_b302.other W72 (own_ne (by omega))
  replace V_b309 := V_b309.other W72 (own_ne (by omega))
  replace V_b337 := V_b337.other W72 (own_ne (by omega))
  replace K := K.wr W72 (Or.inl (List.mem_of_getElem? (i := 0) rfl))
  replace N := Fr.snoc X72 N (by omega)
  clear st72 W72 X71 e71
  clear Fo0_16
  clear V_b337
  exact b3_342 hw C Z0 rr hP X72 e72 N K o_o0_b28 o_b28_b35 o_b35_b43 o_b43_b51 o_b51_b59 o_b59_b295 o_b295_b302 o_b302_b309 g_o0 z_b28 E_o0 Fo0_8 Fo0_a Fo0_b Fo0_c Fo0_d Fo0_e Fo0_10 Fo0_11 Fo0_12 Fo0_17 Fo0_18 Fo0_19 Fo0_1a Fo0_1b V_b28 V_b35 V_b43 V_b51 V_b59 V_b295 V_b302 V_b309 x1 x2 s3 hs3 s4 hs4 s5 hs5 s6 hs6 x7 s8 hs8 x9 s10 hs10 s11 hs11 hv
def f3_293 (c_o0_nodes : Int32) (v_b28 : List Int32) (v_b35 : List Int32) (v_b43 : List Int32) (v_b51 : List Int32) (v_b59 : List Int32) (x1 : Int32) : Option (Int32 × (List Int32) × (List Int32) × (List Int32) × (List Int32) × (List Int32) × (List Int32) × (List Int32) × (List Int32) × (List Int32)) := (if x1 < 0 ∨ 3 < x1.toInt then none else (if x1 < 0 ∨ 3 < x1.toInt then none else (if x1 < 0 ∨ 3 < x1.toInt then none else (f3_314 c_o0_nodes v_b28 v_b35 v_b43 v_b51 v_b59 (List.replicate (x1).toNatClampNeg 0) (List.replicate (x1).toNatClampNeg 0) (List.replicate (x1).toNatClampNeg 0) x1))))
set_option maxRecDepth 65536 in
set_option maxHeartbeats 40000000 in
theorem b3_293 {p : Program} {l : Launch} {e : Env} {s : State} {m : MethodId} {args : Array Value} {below : List Frame} {meth : Method} {c : Code} {Z : State} {a0 : Array Value} {h0 : Heap} {n0 : Nat} {P : Option Value → Heap → List Loc → Prop} (hw : ∀ d ∈ tables_1, d.before a0 Z = true) (C : own_Ctx p s m meth c Z (⟨"com/example/gridfare/gridfare/engine/ResidualNetwork", "<init>", "(II[I[I[I[J)V"⟩ : MethodName) prog_42_method_1_code 12 none) (Z0 : n0 ≤ h0.size) {o3 : Nat} {o4 : Nat} {o5 : Nat} {o0 : Nat} {o6 : Nat} {ta : List Int32} {he : List Int32} {ca : List Int32} {s_scale : Int64} {co : List Int64} (rr : Int32 × (List Int32) × (List Int32) × (List Int32) × (List Int32) × (List Int32) × (List Int32) × (List Int32) × (List Int32) × (List Int32)) (hP : ∀ v h L, Fr n0 L → Keep h0 h [o0] → E3 Z h0 o3 o4 o5 o0 o6 ta he ca s_scale co rr v h → P v h L)
    {T : State} {locs : List Loc} {h : Heap} {b28 : Nat} {b35 : Nat} {b43 : Nat} {b51 : Nat} {b59 : Nat} {c_o0_nodes : Int32} {v_b28 : List Int32} {v_b35 : List Int32} {v_b43 : List Int32} {v_b51 : List Int32} {v_b59 : List Int32} (X : Stand p l e rmR3 s m args below meth c T locs 7 43) (e0 : T.heap = h) (N : Fr n0 locs) (K : Keep h0 h [o0]) (o_o0_b28 : o0 < b28) (o_b28_b35 : b28 < b35) (o_b35_b43 : b35 < b43) (o_b43_b51 : b43 < b51) (o_b51_b59 : b51 < b59) (g_o0 : n0 ≤ o0) (z_b28 : h0.size ≤ b28) (E_o0 : Exa Z h o0 "com/example/gridfare/gridfare/engine/ResidualNetwork") (Fo0_8 : Fld Z h o0 "com/example/gridfare/gridfare/engine/ResidualNetwork" "nodes" "I" (.int c_o0_nodes)) (Fo0_a : Fld Z h o0 "com/example/gridfare/gridfare/engine/ResidualNetwork" "firstArc" "[I" (.ref b28)) (Fo0_b : Fld Z h o0 "com/example/gridfare/gridfare/engine/ResidualNetwork" "added" "[I" (.ref b35)) (Fo0_c : Fld Z h o0 "com/example/gridfare/gridfare/engine/ResidualNetwork" "head" "[I" (.ref b43)) (Fo0_d : Fld Z h o0 "com/example/gridfare/gridfare/engine/ResidualNetwork" "twin" "[I" (.ref b51)) (Fo0_e : Fld Z h o0 "com/example/gridfare/gridfare/engine/ResidualNetwork" "residual" "[I" (.ref b59)) (Fo0_10 : Fld Z h o0 "com/example/gridfare/gridfare/engine/ResidualNetwork" "level" "[I" .null) (Fo0_11 : Fld Z h o0 "com/example/gridfare/gridfare/engine/ResidualNetwork" "levelled" "[I" .null) (Fo0_12 : Fld Z h o0 "com/example/gridfare/gridfare/engine/ResidualNetwork" "arcInto" "[I" .null) (Fo0_13 : Fld Z h o0 "com/example/gridfare/gridfare/engine/ResidualNetwork" "price" "[J" .null) (Fo0_14 : Fld Z h o0 "com/example/gridfare/gridfare/engine/ResidualNetwork" "excess" "[J" .null) (Fo0_15 : Fld Z h o0 "com/example/gridfare/gridfare/engine/ResidualNetwork" "active" "[I" .null) (Fo0_16 : Fld Z h o0 "com/example/gridfare/gridfare/engine/ResidualNetwork" "queued" "[Z" .null) (Fo0_17 : Fld Z h o0 "com/example/gridfare/gridfare/engine/ResidualNetwork" "nearestDeficit" "Lcom/example/gridfare/gridfare/engine/BucketQueue;" .null) (Fo0_18 : Fld Z h o0 "com/example/gridfare/gridfare/engine/ResidualNetwork" "settled" "[Z" .null) (Fo0_19 : Fld Z h o0 "com/example/gridfare/gridfare/engine/ResidualNetwork" "potential" "[J" .null) (Fo0_1a : Fld Z h o0 "com/example/gridfare/gridfare/engine/ResidualNetwork" "lowering" "Lcom/example/gridfare/gridfare/engine/LoweringTree;" .null) (Fo0_1b : Fld Z h o0 "com/example/gridfare/gridfare/engine/ResidualNetwork" "currentArc" "[I" .null) (V_b28 : own_AI Z h b28 .int v_b28) (V_b35 : own_AI Z h b35 .int v_b35) (V_b43 : own_AI Z h b43 .int v_b43) (V_b51 : own_AI Z h b51 .int v_b51) (V_b59 : own_AI Z h b59 .int v_b59) (x1 : Int32) (x2 : Int32) (s3 : Slot) (hs3 : One s3) (s4 : Slot) (hs4 : One s4) (s5 : Slot) (hs5 : One s5) (s6 : Slot) (hs6 : One s6) (x7 : Int32) (s8 : Slot) (hs8 : One s8) (x9 : Int32) (s10 : Slot) (hs10 : One s10) (s11 : Slot) (hs11 : One s11) (hv : f3_293 c_o0_nodes v_b28 v_b35 v_b43 v_b51 v_b59 x1 = some rr) :
    own_WP p e below (own_Q s P rmR3.cells rmR3.slots) T (mkF m 293 #[.val (.ref o0), .val (.int x1), .val (.int x2), s3, s4, s5, s6, .val (.int x7), s8, .val (.int x9), s10, s11] []) := by
  obtain ⟨hx, hZ, hby, hml, hown, hnm, hret, hlk⟩ := id C
  replace hown : s.vm.findClass "com/example/gridfare/gridfare/engine/ResidualNetwork" = some m.cls := hown
  unfold f3_293 at hv
  show own_WP p e below _ T (mkF m 293 #[.val (.ref o0), .val (.int x1), .val (.int x2), s3, s4, s5, s6, .val (.int x7), s8, .val (.int x9), s10, s11] [])
  refine own_go (fun _ => XS.aloadN X.here hx rfl (hb hby d3_293) rfl rfl) ?_
  show own_WP p e below _ T (mkF m 294 _ [(.ref o0)])
  refine own_go (fun _ => XS.iloadN X.here hx rfl (hb hby d3_294) rfl) ?_
  show own_WP p e below _ T (mkF m 295 #[.val (.ref o0), .val (.int x1), .val (.int x2), s3, s4, s5, s6, .val (.int x7), s8, .val (.int x9), s10, s11] [(.int x1), (.ref o0)])
  by_cases h295 : x1 < 0 ∨ 3 < x1.toInt
  · cases ((if_pos h295).symm.trans hv)
  replace hv := (if_neg h295).symm.trans hv
  obtain ⟨T59, h59, b295, X59, e59, E59, hb_b295, V_b295, st59⟩ := own_newI X C e0 (aty := .int) (ty := .int) rfl rfl rfl (hw _ (List.mem_of_getElem? (i := 2) rfl)) (n := x1) (fun q => h295 (Or.inl q)) (cap := 3) (own_cap (k := 3) rfl (fun q => h295 (Or.inr q))) (by decide) (by decide) (by decide) (pc := 295) (Ls := #[.val (.ref o0), .val (.int x1), .val (.int x2), s3, s4, s5, s6, .val (.int x7), s8, .val (.int x9), s10, s11]) (rest := [(.ref o0)]) (hb hby d3_295)
  refine own_go st59 ?_
  have o_b59_b295 : b59 < b295 := by have q : b59 < h.size := V_b59.lt; omega
  replace E_o0 := E_o0.ext E59
  replace Fo0_8 := Fo0_8.ext E59
  replace Fo0_a := Fo0_a.ext E59
  replace Fo0_b := Fo0_b.ext E59
  replace Fo0_c := Fo0_c.ext E59
  replace Fo0_d := Fo0_d.ext E59
  replace Fo0_e := Fo0_e.ext E59
  replace Fo0_10 := Fo0_10.ext E59
  replace Fo0_11 := Fo0_11.ext E59
  replace Fo0_12 := Fo0_12.ext E59
  replace Fo0_13 := Fo0_13.ext E59
  replace Fo0_14 := Fo0_14.ext E59
  replace Fo0_15 := Fo0_15.ext E59
  replace Fo0_16 := Fo0_16.ext E59
  replace Fo0_17 := Fo0_17.ext E59
  replace Fo0_18 := Fo0_18.ext E59
  replace Fo0_19 := Fo0_19.ext E59
  replace Fo0_1a := Fo0_1a.ext E59
  replace Fo0_1b := Fo0_1b.ext E59
  replace V_b28 := V_b28.ext E59
  replace V_b35 := V_b35.ext E59
  replace V_b43 := V_b43.ext E59
  replace V_b51 := V_b51.ext E59
  replace V_b59 := V_b59.ext E59
  replace K := K.ext E59
  clear st59 E59 hb_b295 X e0
  show own_WP p e below _ T59 (mkF m 297 #[.val (.ref o0), .val (.int x1), .val (.int x2), s3, s4, s5, s6, .val (.int x7), s8, .val (.int x9), s10, s11] [(.ref b295), (.ref o0)])
  obtain ⟨T60, h60, X60, e60, W60, st60⟩ := putF X59 hx hZ hown (host := "") (Or.inl (hw _ (List.mem_of_getElem? (i := 51) rfl))) Via.refl e59 Fo0_10 E_o0 (Or.inr ⟨(hw _ (List.mem_of_getElem? (i := 52) rfl)), rfl, hnm⟩) (hw _ (List.mem_of_getElem? (i := 11) rfl)) (ty := (.array .int)) (by decide) rfl rfl (g := (mkF m 297 #[.val (.ref o0), .val (.int x1), .val (.int x2), s3, s4, s5, s6, .val (.int x7), s8, .val (.int x9), s10, s11] [(.ref b295), (.ref o0)])) rfl rfl (hb hby d3_297)
  refine own_go st60 ?_
  replace E_o0 := E_o0.wr W60
  replace Fo0_8 := Fo0_8.other W60 (Or.inr (slot_ne (ly9 hw) (ly16 hw) (by decide) pf1 pf0))
  replace Fo0_a := Fo0_a.other W60 (Or.inr (slot_ne (ly10 hw) (ly16 hw) (by decide) pf0 pf0))
  replace Fo0_b := Fo0_b.other W60 (Or.inr (slot_ne (ly11 hw) (ly16 hw) (by decide) pf0 pf0))
  replace Fo0_c := Fo0_c.other W60 (Or.inr (slot_ne (ly12 hw) (ly16 hw) (by decide) pf0 pf0))
  replace Fo0_d := Fo0_d.other W60 (Or.inr (slot_ne (ly13 hw) (ly16 hw) (by decide) pf0 pf0))
  replace Fo0_e := Fo0_e.other W60 (Or.inr (slot_ne (ly14 hw) (ly16 hw) (by decide) pf0 pf0))
  replace Fo0_10 := Fo0_10.same W60
  replace Fo0_11 := Fo0_11.other W60 (Or.inr (slot_ne (ly17 hw) (ly16 hw) (by decide) pf0 pf0))
  replace Fo0_12 := Fo0_12.other W60 (Or.inr (slot_ne (ly18 hw) (ly16 hw) (by decide) pf0 pf0))
  replace Fo0_13 := Fo0_13.other W60 (Or.inr (slot_ne (ly19 hw) (ly16 hw) (by decide) pf3 pf0))
  replace Fo0_14 := Fo0_14.other W60 (Or.inr (slot_ne (ly20 hw) (ly16 hw) (by decide) pf3 pf0))
  replace Fo0_15 := Fo0_15.other W60 (Or.inr (slot_ne (ly21 hw) (ly16 hw) (by decide) pf0 pf0))
  replace Fo0_16 := Fo0_16.other W60 (Or.inr (slot_ne (ly22 hw) (ly16 hw) (by decide) pf4 pf0))
  replace Fo0_17 := Fo0_17.other W60 (Or.inr (slot_ne (ly23 hw) (ly16 hw) (by decide) pf5 pf0))
  replace Fo0_18 := Fo0_18.other W60 (Or.inr (slot_ne (ly24 hw) (ly16 hw) (by decide) pf4 pf0))
  replace Fo0_19 := Fo0_19.other W60 (Or.inr (slot_ne (ly25 hw) (ly16 hw) (by decide) pf3 pf0))
  replace Fo0_1a := Fo0_1a.other W60 (Or.inr (slot_ne (ly26 hw) (ly16 hw) (by decide) pf6 pf0))
  replace Fo0_1b := Fo0_1b.other W60 (Or.inr (slot_ne (ly27 hw) (ly16 hw) (by decide) pf0 pf0))
  replace V_b28 := V_b28.other W60 (own_ne (by omega))
  replace V_b35 := V_b35.other W60 (own_ne (by omega))
  replace V_b43 := V_b43.other W60 (own_ne (by omega))
  replace V_b51 := V_b51.other W60 (own_ne (by omega))
  replace V_b59 := V_b59.other W60 (own_ne (by omega))
  replace V_b295 := V_b295.other W60 (own_ne (by omega))
  replace K := K.wr W60 (Or.inl (List.mem_of_getElem? (i := 0) rfl))
  replace N := Fr.snoc X60 N (by omega)
  clear st60 W60 X59 e59
  show own_WP p e below _ T60 (mkF m 300 _ [])
  refine own_go (fun _ => XS.aloadN X60.here hx rfl (hb hby d3_300) rfl rfl) ?_
  show own_WP p e below _ T60 (mkF m 301 _ [(.ref o0)])
  refine own_go (fun _ => XS.iloadN X60.here hx rfl (hb hby d3_301) rfl) ?_
  show own_WP p e below _ T60 (mkF m 302 #[.val (.ref o0), .val (.int x1), .val (.int x2), s3, s4, s5, s6, .val (.int x7), s8, .val (.int x9), s10, s11] [(.int x1), (.ref o0)])
  by_cases h302 : x1 < 0 ∨ 3 < x1.toInt
  · cases ((if_pos h302).symm.trans hv)
  replace hv := (if_neg h302).symm.trans hv
  obtain ⟨T61, h61, b302, X61, e61, E61, hb_b302, V_b302, st61⟩ := own_newI X60 C e60 (aty := .int) (ty := .int) rfl rfl rfl (hw _ (List.mem_of_getElem? (i := 2) rfl)) (n := x1) (fun q => h302 (Or.inl q)) (cap := 3) (own_cap (k := 3) rfl (fun q => h302 (Or.inr q))) (by decide) (by decide) (by decide) (pc := 302) (Ls := #[.val (.ref o0), .val (.int x1), .val (.int x2), s3, s4, s5, s6, .val (.int x7), s8, .val (.int x9), s10, s11]) (rest := [(.ref o0)]) (hb hby d3_302)
  refine own_go st61 ?_
  have o_b295_b302 : b295 < b302 := by have q : b295 < h60.size := V_b295.lt; omega
  replace E_o0 := E_o0.ext E61
  replace Fo0_8 := Fo0_8.ext E61
  replace Fo0_a := Fo0_a.ext E61
  replace Fo0_b := Fo0_b.ext E61
  replace Fo0_c := Fo0_c.ext E61
  replace Fo0_d := Fo0_d.ext E61
  replace Fo0_e := Fo0_e.ext E61
  replace Fo0_10 := Fo0_10.ext E61
  replace Fo0_11 := Fo0_11.ext E61
  replace Fo0_12 := Fo0_12.ext E61
  replace Fo0_13 := Fo0_13.ext E61
  replace Fo0_14 := Fo0_14.ext E61
  replace Fo0_15 := Fo0_15.ext E61
  replace Fo0_16 := Fo0_16.ext E61
  replace Fo0_17 := Fo0_17.ext E61
  replace Fo0_18 := Fo0_18.ext E61
  replace Fo0_19 := Fo0_19.ext E61
  replace Fo0_1a := Fo0_1a.ext E61
  replace Fo0_1b := Fo0_1b.ext E61
  replace V_b28 := V_b28.ext E61
  replace V_b35 := V_b35.ext E61
  replace V_b43 := V_b43.ext E61
  replace V_b51 := V_b51.ext E61
  replace V_b59 := V_b59.ext E61
  replace V_b295 := V_b295.ext E61
  replace K := K.ext E61
  clear st61 E61 hb_b302 X60 e60
  show own_WP p e below _ T61 (mkF m 304 #[.val (.ref o0), .val (.int x1), .val (.int x2), s3, s4, s5, s6, .val (.int x7), s8, .val (.int x9), s10, s11] [(.ref b302), (.ref o0)])
  obtain ⟨T62, h62, X62, e62, W62, st62⟩ := putF X61 hx hZ hown (host := "") (Or.inl (hw _ (List.mem_of_getElem? (i := 53) rfl))) Via.refl e61 Fo0_11 E_o0 (Or.inr ⟨(hw _ (List.mem_of_getElem? (i := 54) rfl)), rfl, hnm⟩) (hw _ (List.mem_of_getElem? (i := 11) rfl)) (ty := (.array .int)) (by decide) rfl rfl (g := (mkF m 304 #[.val (.ref o0), .val (.int x1), .val (.int x2), s3, s4, s5, s6, .val (.int x7), s8, .val (.int x9), s10, s11] [(.ref b302), (.ref o0)])) rfl rfl (hb hby d3_304)
  refine own_go st62 ?_
  replace E_o0 := E_o0.wr W62
  replace Fo0_8 := Fo0_8.other W62 (Or.inr (slot_ne (ly9 hw) (ly17 hw) (by decide) pf1 pf0))
  replace Fo0_a := Fo0_a.other W62 (Or.inr (slot_ne (ly10 hw) (ly17 hw) (by decide) pf0 pf0))
  replace Fo0_b := Fo0_b.other W62 (Or.inr (slot_ne (ly11 hw) (ly17 hw) (by decide) pf0 pf0))
  replace Fo0_c := Fo0_c.other W62 (Or.inr (slot_ne (ly12 hw) (ly17 hw) (by decide) pf0 pf0))
  replace Fo0_d := Fo0_d.other W62 (Or.inr (slot_ne (ly13 hw) (ly17 hw) (by decide) pf0 pf0))
  replace Fo0_e := Fo0_e.other W62 (Or.inr (slot_ne (ly14 hw) (ly17 hw) (by decide) pf0 pf0))
  replace Fo0_10 := Fo0_10.other W62 (Or.inr (slot_ne (ly16 hw) (ly17 hw) (by decide) pf0 pf0))
  replace Fo0_11 := Fo0_11.same W62
  replace Fo0_12 := Fo0_12.other W62 (Or.inr (slot_ne (ly18 hw) (ly17 hw) (by decide) pf0 pf0))
  replace Fo0_13 := Fo0_13.other W62 (Or.inr (slot_ne (ly19 hw) (ly17 hw) (by decide) pf3 pf0))
  replace Fo0_14 := Fo0_14.other W62 (Or.inr (slot_ne (ly20 hw) (ly17 hw) (by decide) pf3 pf0))
  replace Fo0_15 := Fo0_15.other W62 (Or.inr (slot_ne (ly21 hw) (ly17 hw) (by decide) pf0 pf0))
  replace Fo0_16 := Fo0_16.other W62 (Or.inr (slot_ne (ly22 hw) (ly17 hw) (by decide) pf4 pf0))
  replace Fo0_17 := Fo0_17.other W62 (Or.inr (slot_ne (ly23 hw) (ly17 hw) (by decide) pf5 pf0))
  replace Fo0_18 := Fo0_18.other W62 (Or.inr (slot_ne (ly24 hw) (ly17 hw) (by decide) pf4 pf0))
  replace Fo0_19 := Fo0_19.other W62 (Or.inr (slot_ne (ly25 hw) (ly17 hw) (by decide) pf3 pf0))
  replace Fo0_1a := Fo0_1a.other W62 (Or.inr (slot_ne (ly26 hw) (ly17 hw) (by decide) pf6 pf0))
  replace Fo0_1b := Fo0_1b.other W62 (Or.inr (slot_ne (ly27 hw) (ly17 hw) (by decide) pf0 pf0))
  replace V_b28 := V_b28.other W62 (own_ne (by omega))
  replace V_b35 := V_b35.other W62 (own_ne (by omega))
  replace V_b43 := V_b43.other W62 (own_ne (by omega))
  replace V_b51 := V_b51.other W62 (own_ne (by omega))
  replace V_b59 := V_b59.other W62 (own_ne (by omega))
  replace V_b295 := V_b295.other W62 (own_ne (by omega))
  replace V_b302 := V_b302.other W62 (own_ne (by omega))
  replace K := K.wr W62 (Or.inl (List.mem_of_getElem? (i := 0) rfl))
  replace N := Fr.snoc X62 N (by omega)
  clear st62 W62 X61 e61
  show own_WP p e below _ T62 (mkF m 307 _ [])
  refine own_go (fun _ => XS.aloadN X62.here hx rfl (hb hby d3_307) rfl rfl) ?_
  show own_WP p e below _ T62 (mkF m 308 _ [(.ref o0)])
  refine own_go (fun _ => XS.iloadN X62.here hx rfl (hb hby d3_308) rfl) ?_
  show own_WP p e below _ T62 (mkF m 309 #[.val (.ref o0), .val (.int x1), .val (.int x2), s3, s4, s5, s6, .val (.int x7), s8, .val (.int x9), s10, s11] [(.int x1), (.ref o0)])
  by_cases h309 : x1 < 0 ∨ 3 < x1.toInt
  · cases ((if_pos h309).symm.trans hv)
  replace hv := (if_neg h309).symm.trans hv
  obtain ⟨T63, h63, b309, X63, e63, E63, hb_b309, V_b309, st63⟩ := own_newI X62 C e62 (aty := .int) (ty := .int) rfl rfl rfl (hw _ (List.mem_of_getElem? (i := 2) rfl)) (n := x1) (fun q => h309 (Or.inl q)) (cap := 3) (own_cap (k := 3) rfl (fun q => h309 (Or.inr q))) (by decide) (by decide) (by decide) (pc := 309) (Ls := #[.val (.ref o0), .val (.int x1), .val (.int x2), s3, s4, s5, s6, .val (.int x7), s8, .val (.int x9), s10, s11]) (rest := [(.ref o0)]) (hb hby d3_309)
  refine own_go st63 ?_
  have o_b302_b309 : b302 < b309 := by have q : b302 < h62.size := V_b302.lt; omega
  replace E_o0 := E_o0.ext E63
  replace Fo0_8 := Fo0_8.ext E63
  replace Fo0_a := Fo0_a.ext E63
  replace Fo0_b := Fo0_b.ext E63
  replace Fo0_c := Fo0_c.ext E63
  replace Fo0_d := Fo0_d.ext E63
  replace Fo0_e := Fo0_e.ext E63
  replace Fo0_10 := Fo0_10.ext E63
  replace Fo0_11 := Fo0_11.ext E63
  replace Fo0_12 := Fo0_12.ext E63
  replace Fo0_13 := Fo0_13.ext E63
  replace Fo0_14 := Fo0_14.ext E63
  replace Fo0_15 := Fo0_15.ext E63
  replace Fo0_16 := Fo0_16.ext E63
  replace Fo0_17 := Fo0_17.ext E63
  replace Fo0_18 := Fo0_18.ext E63
  replace Fo0_19 := Fo0_19.ext E63
  replace Fo0_1a := Fo0_1a.ext E63
  replace Fo0_1b := Fo0_1b.ext E63
  replace V_b28 := V_b28.ext E63
  replace V_b35 := V_b35.ext E63
  replace V_b43 := V_b43.ext E63
  replace V_b51 := V_b51.ext E63
  replace V_b59 := V_b59.ext E63
  replace V_b295 := V_b295.ext E63
  replace V_b302 := V_b302.ext E63
  replace K := K.ext E63
  clear st63 E63 hb_b309 X62 e62
  show own_WP p e below _ T63 (mkF m 311 #[.val (.ref o0), .val (.int x1), .val (.int x2), s3, s4, s5, s6, .val (.int x7), s8, .val (.int x9), s10, s11] [(.ref b309), (.ref o0)])
  obtain ⟨T64, h64, X64, e64, W64, st64⟩ := putF X63 hx hZ hown (host := "") (Or.inl (hw _ (List.mem_of_getElem? (i := 55) rfl))) Via.refl e63 Fo0_12 E_o0 (Or.inr ⟨(hw _ (List.mem_of_getElem? (i := 56) rfl)), rfl, hnm⟩) (hw _ (List.mem_of_getElem? (i := 11) rfl)) (ty := (.array .int)) (by decide) rfl rfl (g := (mkF m 311 #[.val (.ref o0), .val (.int x1), .val (.int x2), s3, s4, s5, s6, .val (.int x7), s8, .val (.int x9), s10, s11] [(.ref b309), (.ref o0)])) rfl rfl (hb hby d3_311)
  refine own_go st64 ?_
  replace E_o0 := E_o0.wr W64
  replace Fo0_8 := Fo0_8.other W64 (Or.inr (slot_ne (ly9 hw) (ly18 hw) (by decide) pf1 pf0))
  replace Fo0_a := Fo0_a.other W64 (Or.inr (slot_ne (ly10 hw) (ly18 hw) (by decide) pf0 pf0))
  replace Fo0_b := Fo0_b.other W64 (Or.inr (slot_ne (ly11 hw) (ly18 hw) (by decide) pf0 pf0))
  replace Fo0_c := Fo0_c.other W64 (Or.inr (slot_ne (ly12 hw) (ly18 hw) (by decide) pf0 pf0))
  replace Fo0_d := Fo0_d.other W64 (Or.inr (slot_ne (ly13 hw) (ly18 hw) (by decide) pf0 pf0))
  replace Fo0_e := Fo0_e.other W64 (Or.inr (slot_ne (ly14 hw) (ly18 hw) (by decide) pf0 pf0))
  replace Fo0_10 := Fo0_10.other W64 (Or.inr (slot_ne (ly16 hw) (ly18 hw) (by decide) pf0 pf0))
  replace Fo0_11 := Fo0_11.other W64 (Or.inr (slot_ne (ly17 hw) (ly18 hw) (by decide) pf0 pf0))
  replace Fo0_12 := Fo0_12.same W64
  replace Fo0_13 := Fo0_13.other W64 (Or.inr (slot_ne (ly19 hw) (ly18 hw) (by decide) pf3 pf0))
  replace Fo0_14 := Fo0_14.other W64 (Or.inr (slot_ne (ly20 hw) (ly18 hw) (by decide) pf3 pf0))
  replace Fo0_15 := Fo0_15.other W64 (Or.inr (slot_ne (ly21 hw) (ly18 hw) (by decide) pf0 pf0))
  replace Fo0_16 := Fo0_16.other W64 (Or.inr (slot_ne (ly22 hw) (ly18 hw) (by decide) pf4 pf0))
  replace Fo0_17 := Fo0_17.other W64 (Or.inr (slot_ne (ly23 hw) (ly18 hw) (by decide) pf5 pf0))
  replace Fo0_18 := Fo0_18.other W64 (Or.inr (slot_ne (ly24 hw) (ly18 hw) (by decide) pf4 pf0))
  replace Fo0_19 := Fo0_19.other W64 (Or.inr (slot_ne (ly25 hw) (ly18 hw) (by decide) pf3 pf0))
  replace Fo0_1a := Fo0_1a.other W64 (Or.inr (slot_ne (ly26 hw) (ly18 hw) (by decide) pf6 pf0))
  replace Fo0_1b := Fo0_1b.other W64 (Or.inr (slot_ne (ly27 hw) (ly18 hw) (by decide) pf0 pf0))
  replace V_b28 := V_b28.other W64 (own_ne (by omega))
  replace V_b35 := V_b35.other W64 (own_ne (by omega))
  replace V_b43 := V_b43.other W64 (own_ne (by omega))
  replace V_b51 := V_b51.other W64 (own_ne (by omega))
  replace V_b59 := V_b59.other W64 (own_ne (by omega))
  replace V_b295 := V_b295.other W64 (own_ne (by omega))
  replace V_b302 := V_b302.other W64 (own_ne (by omega))
  replace V_b309 := V_b309.other W64 (own_ne (by omega))
  replace K := K.wr W64 (Or.inl (List.mem_of_getElem? (i := 0) rfl))
  replace N := Fr.snoc X64 N (by omega)
  clear st64 W64 X63 e63
  exact b3_314 hw C Z0 rr hP X64 e64 N K o_o0_b28 o_b28_b35 o_b35_b43 o_b43_b51 o_b51_b59 o_b59_b295 o_b295_b302 o_b302_b309 g_o0 z_b28 E_o0 Fo0_8 Fo0_a Fo0_b Fo0_c Fo0_d Fo0_e Fo0_10 Fo0_11 Fo0_12 Fo0_13 Fo0_14 Fo0_15 Fo0_16 Fo0_17 Fo0_18 Fo0_19 Fo0_1a Fo0_1b V_b28 V_b35 V_b43 V_b51 V_b59 V_b295 V_b302 V_b309 x1 x2 s3 hs3 s4 hs4 s5 hs5 s6 hs6 x7 s8 hs8 x9 s10 hs10 s11 hs11 hv
def f3_165 : Nat → (List Int32) → (List Int32) → (List Int32) → Int64 → (List Int64) → Int32 → (List Int32) → (List Int32) → (List Int32) → (List Int32) → (List Int32) → (List Int64) → (List Int32) → Int32 → Int32 → Int32 → Option (Int32 × (List Int32) × (List Int32) × (List Int32) × (List Int32) × (List Int32) × (List Int32) × (List Int32) × (List Int32) × (List Int32))
  | 0 => fun _ _ _ _ _ _ _ _ _ _ _ _ _ _ _ _ => none
  | k + 1 => fun ta he ca s_scale co c_o0_nodes v_b28 v_b35 v_b43 v_b51 v_b59 v_b67 v_b157 x1 x2 x9 => (if x9 < x2 then ((own_get ta x9).bind fun w32 => ((own_get v_b157 w32).bind fun w33 => ((own_set v_b157 w32 (w33 + (1 : Int32))).bind fun u34 => ((own_get he x9).bind fun w35 => ((own_get u34 w35).bind fun w36 => ((own_set u34 w35 (w36 + (1 : Int32))).bind fun u37 => ((own_set v_b35 x9 w33).bind fun u39 => ((own_get he x9).bind fun w41 => ((own_set v_b43 w33 w41).bind fun u42 => ((own_get ta x9).bind fun w44 => ((own_set u42 w36 w44).bind fun u45 => ((own_set v_b51 w33 w36).bind fun u47 => ((own_set u47 w36 w33).bind fun u49 => ((own_get ca x9).bind fun w51 => ((own_set v_b59 w33 w51).bind fun u52 => ((own_get co x9).bind fun w54 => ((own_set v_b67 w33 w54).bind fun u55 => ((own_get co x9).bind fun w57 => ((own_set u55 w36 (-w57)).bind fun u58 => (f3_165 k ta he ca s_scale co c_o0_nodes v_b28 u39 u45 u49 u52 u58 u37 x1 x2 (x9 + (1 : Int32)))))))))))))))))))))) else (f3_293 c_o0_nodes v_b28 v_b35 v_b43 v_b51 v_b59 x1))
set_option maxRecDepth 65536 in
set_option maxHeartbeats 40000000 in
theorem b3_165 {p : Program} {l : Launch} {e : Env} {s : State} {m : MethodId} {args : Array Value} {below : List Frame} {meth : Method} {c : Code} {Z : State} {a0 : Array Value} {h0 : Heap} {n0 : Nat} {P : Option Value → Heap → List Loc → Prop} (hw : ∀ d ∈ tables_1, d.before a0 Z = true) (C : own_Ctx p s m meth c Z (⟨"com/example/gridfare/gridfare/engine/ResidualNetwork", "<init>", "(II[I[I[I[J)V"⟩ : MethodName) prog_42_method_1_code 12 none) (Z0 : n0 ≤ h0.size) {o3 : Nat} {o4 : Nat} {o5 : Nat} {o0 : Nat} {o6 : Nat} {ta : List Int32} {he : List Int32} {ca : List Int32} {s_scale : Int64} {co : List Int64} (rr : Int32 × (List Int32) × (List Int32) × (List Int32) × (List Int32) × (List Int32) × (List Int32) × (List Int32) × (List Int32) × (List Int32)) (hP : ∀ v h L, Fr n0 L → Keep h0 h [o0] → E3 Z h0 o3 o4 o5 o0 o6 ta he ca s_scale co rr v h → P v h L) (k : Nat) : ∀ {T : State} {locs : List Loc} {h : Heap} {b28 : Nat} {b35 : Nat} {b43 : Nat} {b51 : Nat} {b59 : Nat} {b67 : Nat} {b157 : Nat} {c_o0_nodes : Int32} {v_b28 : List Int32} {v_b35 : List Int32} {v_b43 : List Int32} {v_b51 : List Int32} {v_b59 : List Int32} {v_b67 : List Int64} {v_b157 : List Int32} (X : Stand p l e rmR3 s m args below meth c T locs 7 43) (e0 : T.heap = h) (N : Fr n0 locs) (K : Keep h0 h [o0]) (o_o3_o4 : o3 < o4) (o_o4_o5 : o4 < o5) (o_o5_o0 : o5 < o0) (o_o0_o6 : o0 < o6) (o_o6_b28 : o6 < b28) (o_b28_b35 : b28 < b35) (o_b35_b43 : b35 < b43) (o_b43_b51 : b43 < b51) (o_b51_b59 : b51 < b59) (o_b59_b67 : b59 < b67) (o_b67_b157 : b67 < b157) (g_o3 : n0 ≤ o3) (z_b28 : h0.size ≤ b28) (V_o3 : own_AI Z h o3 .int ta) (V_o4 : own_AI Z h o4 .int he) (V_o5 : own_AI Z h o5 .int ca) (E_o0 : Exa Z h o0 "com/example/gridfare/gridfare/engine/ResidualNetwork") (Fo0_8 : Fld Z h o0 "com/example/gridfare/gridfare/engine/ResidualNetwork" "nodes" "I" (.int c_o0_nodes)) (Fo0_a : Fld Z h o0 "com/example/gridfare/gridfare/engine/ResidualNetwork" "firstArc" "[I" (.ref b28)) (Fo0_b : Fld Z h o0 "com/example/gridfare/gridfare/engine/ResidualNetwork" "added" "[I" (.ref b35)) (Fo0_c : Fld Z h o0 "com/example/gridfare/gridfare/engine/ResidualNetwork" "head" "[I" (.ref b43)) (Fo0_d : Fld Z h o0 "com/example/gridfare/gridfare/engine/ResidualNetwork" "twin" "[I" (.ref b51)) (Fo0_e : Fld Z h o0 "com/example/gridfare/gridfare/engine/ResidualNetwork" "residual" "[I" (.ref b59)) (Fo0_f : Fld Z h o0 "com/example/gridfare/gridfare/engine/ResidualNetwork" "cost" "[J" (.ref b67)) (Fo0_10 : Fld Z h o0 "com/example/gridfare/gridfare/engine/ResidualNetwork" "level" "[I" .null) (Fo0_11 : Fld Z h o0 "com/example/gridfare/gridfare/engine/ResidualNetwork" "levelled" "[I" .null) (Fo0_12 : Fld Z h o0 "com/example/gridfare/gridfare/engine/ResidualNetwork" "arcInto" "[I" .null) (Fo0_13 : Fld Z h o0 "com/example/gridfare/gridfare/engine/ResidualNetwork" "price" "[J" .null) (Fo0_14 : Fld Z h o0 "com/example/gridfare/gridfare/engine/ResidualNetwork" "excess" "[J" .null) (Fo0_15 : Fld Z h o0 "com/example/gridfare/gridfare/engine/ResidualNetwork" "active" "[I" .null) (Fo0_16 : Fld Z h o0 "com/example/gridfare/gridfare/engine/ResidualNetwork" "queued" "[Z" .null) (Fo0_17 : Fld Z h o0 "com/example/gridfare/gridfare/engine/ResidualNetwork" "nearestDeficit" "Lcom/example/gridfare/gridfare/engine/BucketQueue;" .null) (Fo0_18 : Fld Z h o0 "com/example/gridfare/gridfare/engine/ResidualNetwork" "settled" "[Z" .null) (Fo0_19 : Fld Z h o0 "com/example/gridfare/gridfare/engine/ResidualNetwork" "potential" "[J" .null) (Fo0_1a : Fld Z h o0 "com/example/gridfare/gridfare/engine/ResidualNetwork" "lowering" "Lcom/example/gridfare/gridfare/engine/LoweringTree;" .null) (Fo0_1b : Fld Z h o0 "com/example/gridfare/gridfare/engine/ResidualNetwork" "currentArc" "[I" .null) (V_o6 : own_AJ Z h o6 .long co) (V_b28 : own_AI Z h b28 .int v_b28) (V_b35 : own_AI Z h b35 .int v_b35) (V_b43 : own_AI Z h b43 .int v_b43) (V_b51 : own_AI Z h b51 .int v_b51) (V_b59 : own_AI Z h b59 .int v_b59) (V_b67 : own_AJ Z h b67 .long v_b67) (V_b157 : own_AI Z h b157 .int v_b157) (x1 : Int32) (x2 : Int32) (x7 : Int32) (x9 : Int32) (s10 : Slot) (hs10 : One s10) (s11 : Slot) (hs11 : One s11) (hv : f3_165 k ta he ca s_scale co c_o0_nodes v_b28 v_b35 v_b43 v_b51 v_b59 v_b67 v_b157 x1 x2 x9 = some rr),
    own_WP p e below (own_Q s P rmR3.cells rmR3.slots) T (mkF m 165 #[.val (.ref o0), .val (.int x1), .val (.int x2), .val (.ref o3), .val (.ref o4), .val (.ref o5), .val (.ref o6), .val (.int x7), .val (.ref b157), .val (.int x9), s10, s11] []) := by
  obtain ⟨hx, hZ, hby, hml, hown, hnm, hret, hlk⟩ := id C
  replace hown : s.vm.findClass "com/example/gridfare/gridfare/engine/ResidualNetwork" = some m.cls := hown
  induction k with
  | zero => intros; rename_i hv; cases hv
  | succ k ih =>
    intro T locs h b28 b35 b43 b51 b59 b67 b157 c_o0_nodes v_b28 v_b35 v_b43 v_b51 v_b59 v_b67 v_b157 X e0 N K o_o3_o4 o_o4_o5 o_o5_o0 o_o0_o6 o_o6_b28 o_b28_b35 o_b35_b43 o_b43_b51 o_b51_b59 o_b59_b67 o_b67_b157 g_o3 z_b28 V_o3 V_o4 V_o5 E_o0 Fo0_8 Fo0_a Fo0_b Fo0_c Fo0_d Fo0_e Fo0_f Fo0_10 Fo0_11 Fo0_12 Fo0_13 Fo0_14 Fo0_15 Fo0_16 Fo0_17 Fo0_18 Fo0_19 Fo0_1a Fo0_1b V_o6 V_b28 V_b35 V_b43 V_b51 V_b59 V_b67 V_b157 x1 x2 x7 x9 s10 hs10 s11 hs11 hv
    unfold f3_165 at hv
    show own_WP p e below _ T (mkF m 165 #[.val (.ref o0), .val (.int x1), .val (.int x2), .val (.ref o3), .val (.ref o4), .val (.ref o5), .val (.ref o6), .val (.int x7), .val (.ref b157), .val (.int x9), s10, s11] [])
    refine own_go (fun _ => XS.iload X.here hx rfl (hb hby d3_165) rfl) ?_
    show own_WP p e below _ T (mkF m 167 _ [(.int x9)])
    refine own_go (fun _ => XS.iloadN X.here hx rfl (hb hby d3_167) rfl) ?_
    show own_WP p e below _ T (mkF m 168 _ [(.int x2), (.int x9)])
    by_cases h168 : x9 < x2
    · replace hv := (if_pos h168).symm.trans hv
      refine own_go (fun _ => XS.icmpNo X.here hx rfl (hb hby d3_168) rfl (XT.ii_ge_f h168)) ?_
      show own_WP p e below _ T (mkF m 171 #[.val (.ref o0), .val (.int x1), .val (.int x2), .val (.ref o3), .val (.ref o4), .val (.ref o5), .val (.ref o6), .val (.int x7), .val (.ref b157), .val (.int x9), s10, s11] [])
      refine own_go (fun _ => XS.aload X.here hx rfl (hb hby d3_171) rfl rfl) ?_
      show own_WP p e below _ T (mkF m 173 _ [(.ref b157)])
      refine own_go (fun _ => XS.aloadN X.here hx rfl (hb hby d3_173) rfl rfl) ?_
      show own_WP p e below _ T (mkF m 174 _ [(.ref o3), (.ref b157)])
      refine own_go (fun _ => XS.iload X.here hx rfl (hb hby d3_174) rfl) ?_
      show own_WP p e below _ T (mkF m 176 _ [(.int x9), (.ref o3), (.ref b157)])
      obtain ⟨w32, hg32, hv⟩ := own_bind hv
      refine own_go (own_iaload X C e0 V_o3 hg32 (hb hby d3_176)) ?_
      show own_WP p e below _ T (mkF m 177 _ [(.int w32), (.ref b157)])
      refine own_go (fun _ => XT.dup2 X.here hx rfl (hb hby d3_177) rfl rfl rfl) ?_
      show own_WP p e below _ T (mkF m 178 _ [(.int w32), (.ref b157), (.int w32), (.ref b157)])
      obtain ⟨w33, hg33, hv⟩ := own_bind hv
      refine own_go (own_iaload X C e0 V_b157 hg33 (hb hby d3_178)) ?_
      show own_WP p e below _ T (mkF m 179 _ [(.int w33), (.int w32), (.ref b157)])
      refine own_go (fun _ => own_dupX2 X.here hx rfl (hb hby d3_179) rfl rfl rfl rfl) ?_
      show own_WP p e below _ T (mkF m 180 _ [(.int w33), (.int w32), (.ref b157), (.int w33)])
      refine own_go (fun _ => XS.iconst X.here hx rfl (hb hby d3_180)) ?_
      show own_WP p e below _ T (mkF m 181 #[.val (.ref o0), .val (.int x1), .val (.int x2), .val (.ref o3), .val (.ref o4), .val (.ref o5), .val (.ref o6), .val (.int x7), .val (.ref b157), .val (.int x9), s10, s11] [(.int (1 : Int32)), (.int w33), (.int w32), (.ref b157), (.int w33)])
      refine own_go (fun _ => XS.iadd X.here hx rfl (hb hby d3_181) rfl) ?_
      show own_WP p e below _ T (mkF m 182 _ [(.int (w33 + (1 : Int32))), (.int w32), (.ref b157), (.int w33)])
      obtain ⟨u34, hg34, hv⟩ := own_bind hv
      obtain ⟨T34, h34, X34, e34, W34, V'34, st34⟩ := own_iastore X C e0 V_b157 (j := w32) (x := (w33 + (1 : Int32))) hg34 (hb hby d3_182)
      refine own_go st34 ?_
      replace V_o3 := V_o3.other W34 (own_ne (by omega))
      replace V_o4 := V_o4.other W34 (own_ne (by omega))
      replace V_o5 := V_o5.other W34 (own_ne (by omega))
      replace E_o0 := E_o0.wr W34
      have nq : @Ne Addr o0 b157 := own_ne (by omega)
      replace Fo0_8 := Fo0_8.other W34 (Or.inl nq)
      replace Fo0_a := Fo0_a.other W34 (Or.inl nq)
      replace Fo0_b := Fo0_b.other W34 (Or.inl nq)
      replace Fo0_c := Fo0_c.other W34 (Or.inl nq)
      replace Fo0_d := Fo0_d.other W34 (Or.inl nq)
      replace Fo0_e := Fo0_e.other W34 (Or.inl nq)
      replace Fo0_f := Fo0_f.other W34 (Or.inl nq)
      replace Fo0_10 := Fo0_10.other W34 (Or.inl nq)
      replace Fo0_11 := Fo0_11.other W34 (Or.inl nq)
      replace Fo0_12 := Fo0_12.other W34 (Or.inl nq)
      replace Fo0_13 := Fo0_13.other W34 (Or.inl nq)
      replace Fo0_14 := Fo0_14.other W34 (Or.inl nq)
      replace Fo0_15 := Fo0_15.other W34 (Or.inl nq)
      replace Fo0_16 := Fo0_16.other W34 (Or.inl nq)
      replace Fo0_17 := Fo0_17.other W34 (Or.inl nq)
      replace Fo0_18 := Fo0_18.other W34 (Or.inl nq)
      replace Fo0_19 := Fo0_19.other W34 (Or.inl nq)
      replace Fo0_1a := Fo0_1a.other W34 (Or.inl nq)
      replace Fo0_1b := Fo0_1b.other W34 (Or.inl nq)
      clear nq
      replace V_o6 := V_o6.other W34 (own_ne (by omega))
      replace V_b28 := V_b28.other W34 (own_ne (by omega))
      replace V_b35 := V_b35.other W34 (own_ne (by omega))
      replace V_b43 := V_b43.other W34 (own_ne (by omega))
      replace V_b51 := V_b51.other W34 (own_ne (by omega))
      replace V_b59 := V_b59.other W34 (own_ne (by omega))
      replace V_b67 := V_b67.other W34 (own_ne (by omega))
      replace V_b157 := V'34
      clear V'34
      replace K := K.wr W34 (Or.inr (by omega))
      replace N := Fr.snoc X34 N (by omega)
      clear st34 W34 hg34 X e0
      show own_WP p e below _ T34 (mkF m 183 #[.val (.ref o0), .val (.int x1), .val (.int x2), .val (.ref o3), .val (.ref o4), .val (.ref o5), .val (.ref o6), .val (.int x7), .val (.ref b157), .val (.int x9), s10, s11] [(.int w33)])
      refine own_go (fun _ => XS.istore X34.here hx rfl (hb hby d3_183) rfl (XS.store1 (o := s10) rfl hs10 rfl)) ?_
      show own_WP p e below _ T34 (mkF m 185 #[.val (.ref o0), .val (.int x1), .val (.int x2), .val (.ref o3), .val (.ref o4), .val (.ref o5), .val (.ref o6), .val (.int x7), .val (.ref b157), .val (.int x9), .val (.int w33), s11] [])
      refine own_go (fun _ => XS.aload X34.here hx rfl (hb hby d3_185) rfl rfl) ?_
      show own_WP p e below _ T34 (mkF m 187 _ [(.ref b157)])
      refine own_go (fun _ => XS.aload X34.here hx rfl (hb hby d3_187) rfl rfl) ?_
      show own_WP p e below _ T34 (mkF m 189 _ [(.ref o4), (.ref b157)])
      refine own_go (fun _ => XS.iload X34.here hx rfl (hb hby d3_189) rfl) ?_
      show own_WP p e below _ T34 (mkF m 191 _ [(.int x9), (.ref o4), (.ref b157)])
      obtain ⟨w35, hg35, hv⟩ := own_bind hv
      refine own_go (own_iaload X34 C e34 V_o4 hg35 (hb hby d3_191)) ?_
      show own_WP p e below _ T34 (mkF m 192 _ [(.int w35), (.ref b157)])
      refine own_go (fun _ => XT.dup2 X34.here hx rfl (hb hby d3_192) rfl rfl rfl) ?_
      show own_WP p e below _ T34 (mkF m 193 _ [(.int w35), (.ref b157), (.int w35), (.ref b157)])
      obtain ⟨w36, hg36, hv⟩ := own_bind hv
      refine own_go (own_iaload X34 C e34 V_b157 hg36 (hb hby d3_193)) ?_
      show own_WP p e below _ T34 (mkF m 194 _ [(.int w36), (.int w35), (.ref b157)])
      refine own_go (fun _ => own_dupX2 X34.here hx rfl (hb hby d3_194) rfl rfl rfl rfl) ?_
      show own_WP p e below _ T34 (mkF m 195 _ [(.int w36), (.int w35), (.ref b157), (.int w36)])
      refine own_go (fun _ => XS.iconst X34.here hx rfl (hb hby d3_195)) ?_
      show own_WP p e below _ T34 (mkF m 196 #[.val (.ref o0), .val (.int x1), .val (.int x2), .val (.ref o3), .val (.ref o4), .val (.ref o5), .val (.ref o6), .val (.int x7), .val (.ref b157), .val (.int x9), .val (.int w33), s11] [(.int (1 : Int32)), (.int w36), (.int w35), (.ref b157), (.int w36)])
      refine own_go (fun _ => XS.iadd X34.here hx rfl (hb hby d3_196) rfl) ?_
      show own_WP p e below _ T34 (mkF m 197 _ [(.int (w36 + (1 : Int32))), (.int w35), (.ref b157), (.int w36)])
      obtain ⟨u37, hg37, hv⟩ := own_bind hv
      obtain ⟨T37, h37, X37, e37, W37, V'37, st37⟩ := own_iastore X34 C e34 V_b157 (j := w35) (x := (w36 + (1 : Int32))) hg37 (hb hby d3_197)
      refine own_go st37 ?_
      replace V_o3 := V_o3.other W37 (own_ne (by omega))
      replace V_o4 := V_o4.other W37 (own_ne (by omega))
      replace V_o5 := V_o5.other W37 (own_ne (by omega))
      replace E_o0 := E_o0.wr W37
      have nq : @Ne Addr o0 b157 := own_ne (by omega)
      replace Fo0_8 := Fo0_8.other W37 (Or.inl nq)
      replace Fo0_a := Fo0_a.other W37 (Or.inl nq)
      replace Fo0_b := Fo0_b.other W37 (Or.inl nq)
      replace Fo0_c := Fo0_c.other W37 (Or.inl nq)
      replace Fo0_d := Fo0_d.other W37 (Or.inl nq)
      replace Fo0_e := Fo0_e.other W37 (Or.inl nq)
      replace Fo0_f := Fo0_f.other W37 (Or.inl nq)
      replace Fo0_10 := Fo0_10.other W37 (Or.inl nq)
      replace Fo0_11 := Fo0_11.other W37 (Or.inl nq)
      replace Fo0_12 := Fo0_12.other W37 (Or.inl nq)
      replace Fo0_13 := Fo0_13.other W37 (Or.inl nq)
      replace Fo0_14 := Fo0_14.other W37 (Or.inl nq)
      replace Fo0_15 := Fo0_15.other W37 (Or.inl nq)
      replace Fo0_16 := Fo0_16.other W37 (Or.inl nq)
      replace Fo0_17 := Fo0_17.other W37 (Or.inl nq)
      replace Fo0_18 := Fo0_18.other W37 (Or.inl nq)
      replace Fo0_19 := Fo0_19.other W37 (Or.inl nq)
      replace Fo0_1a := Fo0_1a.other W37 (Or.inl nq)
      replace Fo0_1b := Fo0_1b.other W37 (Or.inl nq)
      clear nq
      replace V_o6 := V_o6.other W37 (own_ne (by omega))
      replace V_b28 := V_b28.other W37 (own_ne (by omega))
      replace V_b35 := V_b35.other W37 (own_ne (by omega))
      replace V_b43 := V_b43.other W37 (own_ne (by omega))
      replace V_b51 := V_b51.other W37 (own_ne (by omega))
      replace V_b59 := V_b59.other W37 (own_ne (by omega))
      replace V_b67 := V_b67.other W37 (own_ne (by omega))
      replace V_b157 := V'37
      clear V'37
      replace K := K.wr W37 (Or.inr (by omega))
      replace N := Fr.snoc X37 N (by omega)
      clear st37 W37 hg37 X34 e34
      show own_WP p e below _ T37 (mkF m 198 #[.val (.ref o0), .val (.int x1), .val (.int x2), .val (.ref o3), .val (.ref o4), .val (.ref o5), .val (.ref o6), .val (.int x7), .val (.ref b157), .val (.int x9), .val (.int w33), s11] [(.int w36)])
      refine own_go (fun _ => XS.istore X37.here hx rfl (hb hby d3_198) rfl (XS.store1 (o := s11) rfl hs11 rfl)) ?_
      show own_WP p e below _ T37 (mkF m 200 #[.val (.ref o0), .val (.int x1), .val (.int x2), .val (.ref o3), .val (.ref o4), .val (.ref o5), .val (.ref o6), .val (.int x7), .val (.ref b157), .val (.int x9), .val (.int w33), .val (.int w36)] [])
      refine own_go (fun _ => XS.aloadN X37.here hx rfl (hb hby d3_200) rfl rfl) ?_
      show own_WP p e below _ T37 (mkF m 201 _ [(.ref o0)])
      obtain ⟨T38, X38, e38, st38⟩ := getF X37 hx hZ hown (host := "") (Or.inl (hw _ (List.mem_of_getElem? (i := 30) rfl))) Via.refl e37 Fo0_b (g := (mkF m 201 #[.val (.ref o0), .val (.int x1), .val (.int x2), .val (.ref o3), .val (.ref o4), .val (.ref o5), .val (.ref o6), .val (.int x7), .val (.ref b157), .val (.int x9), .val (.int w33), .val (.int w36)] [(.ref o0)])) rfl rfl (hb hby d3_201)
      refine own_go st38 ?_
      clear st38 X37 e37
      show own_WP p e below _ T38 (mkF m 204 _ [(.ref b35)])
      refine own_go (fun _ => XS.iload X38.here hx rfl (hb hby d3_204) rfl) ?_
      show own_WP p e below _ T38 (mkF m 206 _ [(.int x9), (.ref b35)])
      refine own_go (fun _ => XS.iload X38.here hx rfl (hb hby d3_206) rfl) ?_
      show own_WP p e below _ T38 (mkF m 208 _ [(.int w33), (.int x9), (.ref b35)])
      obtain ⟨u39, hg39, hv⟩ := own_bind hv
      obtain ⟨T39, h39, X39, e39, W39, V'39, st39⟩ := own_iastore X38 C e38 V_b35 (j := x9) (x := w33) hg39 (hb hby d3_208)
      refine own_go st39 ?_
      replace V_o3 := V_o3.other W39 (own_ne (by omega))
      replace V_o4 := V_o4.other W39 (own_ne (by omega))
      replace V_o5 := V_o5.other W39 (own_ne (by omega))
      replace E_o0 := E_o0.wr W39
      have nq : @Ne Addr o0 b35 := own_ne (by omega)
      replace Fo0_8 := Fo0_8.other W39 (Or.inl nq)
      replace Fo0_a := Fo0_a.other W39 (Or.inl nq)
      replace Fo0_b := Fo0_b.other W39 (Or.inl nq)
      replace Fo0_c := Fo0_c.other W39 (Or.inl nq)
      replace Fo0_d := Fo0_d.other W39 (Or.inl nq)
      replace Fo0_e := Fo0_e.other W39 (Or.inl nq)
      replace Fo0_f := Fo0_f.other W39 (Or.inl nq)
      replace Fo0_10 := Fo0_10.other W39 (Or.inl nq)
      replace Fo0_11 := Fo0_11.other W39 (Or.inl nq)
      replace Fo0_12 := Fo0_12.other W39 (Or.inl nq)
      replace Fo0_13 := Fo0_13.other W39 (Or.inl nq)
      replace Fo0_14 := Fo0_14.other W39 (Or.inl nq)
      replace Fo0_15 := Fo0_15.other W39 (Or.inl nq)
      replace Fo0_16 := Fo0_16.other W39 (Or.inl nq)
      replace Fo0_17 := Fo0_17.other W39 (Or.inl nq)
      replace Fo0_18 := Fo0_18.other W39 (Or.inl nq)
      replace Fo0_19 := Fo0_19.other W39 (Or.inl nq)
      replace Fo0_1a := Fo0_1a.other W39 (Or.inl nq)
      replace Fo0_1b := Fo0_1b.other W39 (Or.inl nq)
      clear nq
      replace V_o6 := V_o6.other W39 (own_ne (by omega))
      replace V_b28 := V_b28.other W39 (own_ne (by omega))
      replace V_b43 := V_b43.other W39 (own_ne (by omega))
      replace V_b51 := V_b51.other W39 (own_ne (by omega))
      replace V_b59 := V_b59.other W39 (own_ne (by omega))
      replace V_b67 := V_b67.other W39 (own_ne (by omega))
      replace V_b157 := V_b157.other W39 (own_ne (by omega))
      replace V_b35 := V'39
      clear V'39
      replace K := K.wr W39 (Or.inr (by omega))
      replace N := Fr.snoc X39 N (by omega)
      clear st39 W39 hg39 X38 e38
      show own_WP p e below _ T39 (mkF m 209 _ [])
      refine own_go (fun _ => XS.aloadN X39.here hx rfl (hb hby d3_209) rfl rfl) ?_
      show own_WP p e below _ T39 (mkF m 210 _ [(.ref o0)])
      obtain ⟨T40, X40, e40, st40⟩ := getF X39 hx hZ hown (host := "") (Or.inl (hw _ (List.mem_of_getElem? (i := 32) rfl))) Via.refl e39 Fo0_c (g := (mkF m 210 #[.val (.ref o0), .val (.int x1), .val (.int x2), .val (.ref o3), .val (.ref o4), .val (.ref o5), .val (.ref o6), .val (.int x7), .val (.ref b157), .val (.int x9), .val (.int w33), .val (.int w36)] [(.ref o0)])) rfl rfl (hb hby d3_210)
      refine own_go st40 ?_
      clear st40 X39 e39
      show own_WP p e below _ T40 (mkF m 213 _ [(.ref b43)])
      refine own_go (fun _ => XS.iload X40.here hx rfl (hb hby d3_213) rfl) ?_
      show own_WP p e below _ T40 (mkF m 215 #[.val (.ref o0), .val (.int x1), .val (.int x2), .val (.ref o3), .val (.ref o4), .val (.ref o5), .val (.ref o6), .val (.int x7), .val (.ref b157), .val (.int x9), .val (.int w33), .val (.int w36)] [(.int w33), (.ref b43)])
      refine own_go (fun _ => XS.aload X40.here hx rfl (hb hby d3_215) rfl rfl) ?_
      show own_WP p e below _ T40 (mkF m 217 _ [(.ref o4), (.int w33), (.ref b43)])
      refine own_go (fun _ => XS.iload X40.here hx rfl (hb hby d3_217) rfl) ?_
      show own_WP p e below _ T40 (mkF m 219 _ [(.int x9), (.ref o4), (.int w33), (.ref b43)])
      obtain ⟨w41, hg41, hv⟩ := own_bind hv
      refine own_go (own_iaload X40 C e40 V_o4 hg41 (hb hby d3_219)) ?_
      show own_WP p e below _ T40 (mkF m 220 _ [(.int w41), (.int w33), (.ref b43)])
      obtain ⟨u42, hg42, hv⟩ := own_bind hv
      obtain ⟨T42, h42, X42, e42, W42, V'42, st42⟩ := own_iastore X40 C e40 V_b43 (j := w33) (x := w41) hg42 (hb hby d3_220)
      refine own_go st42 ?_
      replace V_o3 := V_o3.other W42 (own_ne (by omega))
      replace V_o4 := V_o4.other W42 (own_ne (by omega))
      replace V_o5 := V_o5.other W42 (own_ne (by omega))
      replace E_o0 := E_o0.wr W42
      have nq : @Ne Addr o0 b43 := own_ne (by omega)
      replace Fo0_8 := Fo0_8.other W42 (Or.inl nq)
      replace Fo0_a := Fo0_a.other W42 (Or.inl nq)
      replace Fo0_b := Fo0_b.other W42 (Or.inl nq)
      replace Fo0_c := Fo0_c.other W42 (Or.inl nq)
      replace Fo0_d := Fo0_d.other W42 (Or.inl nq)
      replace Fo0_e := Fo0_e.other W42 (Or.inl nq)
      replace Fo0_f := Fo0_f.other W42 (Or.inl nq)
      replace Fo0_10 := Fo0_10.other W42 (Or.inl nq)
      replace Fo0_11 := Fo0_11.other W42 (Or.inl nq)
      replace Fo0_12 := Fo0_12.other W42 (Or.inl nq)
      replace Fo0_13 := Fo0_13.other W42 (Or.inl nq)
      replace Fo0_14 := Fo0_14.other W42 (Or.inl nq)
      replace Fo0_15 := Fo0_15.other W42 (Or.inl nq)
      replace Fo0_16 := Fo0_16.other W42 (Or.inl nq)
      replace Fo0_17 := Fo0_17.other W42 (Or.inl nq)
      replace Fo0_18 := Fo0_18.other W42 (Or.inl nq)
      replace Fo0_19 := Fo0_19.other W42 (Or.inl nq)
      replace Fo0_1a := Fo0_1a.other W42 (Or.inl nq)
      replace Fo0_1b := Fo0_1b.other W42 (Or.inl nq)
      clear nq
      replace V_o6 := V_o6.other W42 (own_ne (by omega))
      replace V_b28 := V_b28.other W42 (own_ne (by omega))
      replace V_b35 := V_b35.other W42 (own_ne (by omega))
      replace V_b51 := V_b51.other W42 (own_ne (by omega))
      replace V_b59 := V_b59.other W42 (own_ne (by omega))
      replace V_b67 := V_b67.other W42 (own_ne (by omega))
      replace V_b157 := V_b157.other W42 (own_ne (by omega))
      replace V_b43 := V'42
      clear V'42
      replace K := K.wr W42 (Or.inr (by omega))
      replace N := Fr.snoc X42 N (by omega)
      clear st42 W42 hg42 X40 e40
      show own_WP p e below _ T42 (mkF m 221 _ [])
      refine own_go (fun _ => XS.aloadN X42.here hx rfl (hb hby d3_221) rfl rfl) ?_
      show own_WP p e below _ T42 (mkF m 222 _ [(.ref o0)])
      obtain ⟨T43, X43, e43, st43⟩ := getF X42 hx hZ hown (host := "") (Or.inl (hw _ (List.mem_of_getElem? (i := 32) rfl))) Via.refl e42 Fo0_c (g := (mkF m 222 #[.val (.ref o0), .val (.int x1), .val (.int x2), .val (.ref o3), .val (.ref o4), .val (.ref o5), .val (.ref o6), .val (.int x7), .val (.ref b157), .val (.int x9), .val (.int w33), .val (.int w36)] [(.ref o0)])) rfl rfl (hb hby d3_222)
      refine own_go st43 ?_
      clear st43 X42 e42
      show own_WP p e below _ T43 (mkF m 225 _ [(.ref b43)])
      refine own_go (fun _ => XS.iload X43.here hx rfl (hb hby d3_225) rfl) ?_
      show own_WP p e below _ T43 (mkF m 227 _ [(.int w36), (.ref b43)])
      refine own_go (fun _ => XS.aloadN X43.here hx rfl (hb hby d3_227) rfl rfl) ?_
      show own_WP p e below _ T43 (mkF m 228 #[.val (.ref o0), .val (.int x1), .val (.int x2), .val (.ref o3), .val (.ref o4), .val (.ref o5), .val (.ref o6), .val (.int x7), .val (.ref b157), .val (.int x9), .val (.int w33), .val (.int w36)] [(.ref o3), (.int w36), (.ref b43)])
      refine own_go (fun _ => XS.iload X43.here hx rfl (hb hby d3_228) rfl) ?_
      show own_WP p e below _ T43 (mkF m 230 _ [(.int x9), (.ref o3), (.int w36), (.ref b43)])
      obtain ⟨w44, hg44, hv⟩ := own_bind hv
      refine own_go (own_iaload X43 C e43 V_o3 hg44 (hb hby d3_230)) ?_
      show own_WP p e below _ T43 (mkF m 231 _ [(.int w44), (.int w36), (.ref b43)])
      obtain ⟨u45, hg45, hv⟩ := own_bind hv
      obtain ⟨T45, h45, X45, e45, W45, V'45, st45⟩ := own_iastore X43 C e43 V_b43 (j := w36) (x := w44) hg45 (hb hby d3_231)
      refine own_go st45 ?_
      replace V_o3 := V_o3.other W45 (own_ne (by omega))
      replace V_o4 := V_o4.other W45 (own_ne (by omega))
      replace V_o5 := V_o5.other W45 (own_ne (by omega))
      replace E_o0 := E_o0.wr W45
      have nq : @Ne Addr o0 b43 := own_ne (by omega)
      replace Fo0_8 := Fo0_8.other W45 (Or.inl nq)
      replace Fo0_a := Fo0_a.other W45 (Or.inl nq)
      replace Fo0_b := Fo0_b.other W45 (Or.inl nq)
      replace Fo0_c := Fo0_c.other W45 (Or.inl nq)
      replace Fo0_d := Fo0_d.other W45 (Or.inl nq)
      replace Fo0_e := Fo0_e.other W45 (Or.inl nq)
      replace Fo0_f := Fo0_f.other W45 (Or.inl nq)
      replace Fo0_10 := Fo0_10.other W45 (Or.inl nq)
      replace Fo0_11 := Fo0_11.other W45 (Or.inl nq)
      replace Fo0_12 := Fo0_12.other W45 (Or.inl nq)
      replace Fo0_13 := Fo0_13.other W45 (Or.inl nq)
      replace Fo0_14 := Fo0_14.other W45 (Or.inl nq)
      replace Fo0_15 := Fo0_15.other W45 (Or.inl nq)
      replace Fo0_16 := Fo0_16.other W45 (Or.inl nq)
      replace Fo0_17 := Fo0_17.other W45 (Or.inl nq)
      replace Fo0_18 := Fo0_18.other W45 (Or.inl nq)
      replace Fo0_19 := Fo0_19.other W45 (Or.inl nq)
      replace Fo0_1a := Fo0_1a.other W45 (Or.inl nq)
      replace Fo0_1b := Fo0_1b.other W45 (Or.inl nq)
      clear nq
      replace V_o6 := V_o6.other W45 (own_ne (by omega))
      replace V_b28 := V_b28.other W45 (own_ne (by omega))
      replace V_b35 := V_b35.other W45 (own_ne (by omega))
      replace V_b51 := V_b51.other W45 (own_ne (by omega))
      replace V_b59 := V_b59.other W45 (own_ne (by omega))
      replace V_b67 := V_b67.other W45 (own_ne (by omega))
      replace V_b157 := V_b157.other W45 (own_ne (by omega))
      replace V_b43 := V'45
      clear V'45
      replace K := K.wr W45 (Or.inr (by omega))
      replace N := Fr.snoc X45 N (by omega)
      clear st45 W45 hg45 X43 e43
      show own_WP p e below _ T45 (mkF m 232 _ [])
      refine own_go (fun _ => XS.aloadN X45.here hx rfl (hb hby d3_232) rfl rfl) ?_
      show own_WP p e below _ T45 (mkF m 233 _ [(.ref o0)])
      obtain ⟨T46, X46, e46, st46⟩ := getF X45 hx hZ hown (host := "") (Or.inl (hw _ (List.mem_of_getElem? (i := 34) rfl))) Via.refl e45 Fo0_d (g := (mkF m 233 #[.val (.ref o0), .val (.int x1), .val (.int x2), .val (.ref o3), .val (.ref o4), .val (.ref o5), .val (.ref o6), .val (.int x7), .val (.ref b157), .val (.int x9), .val (.int w33), .val (.int w36)] [(.ref o0)])) rfl rfl (hb hby d3_233)
      refine own_go st46 ?_
      clear st46 X45 e45
      show own_WP p e below _ T46 (mkF m 236 _ [(.ref b51)])
      refine own_go (fun _ => XS.iload X46.here hx rfl (hb hby d3_236) rfl) ?_
      show own_WP p e below _ T46 (mkF m 238 _ [(.int w33), (.ref b51)])
      refine own_go (fun _ => XS.iload X46.here hx rfl (hb hby d3_238) rfl) ?_
      show own_WP p e below _ T46 (mkF m 240 _ [(.int w36), (.int w33), (.ref b51)])
      obtain ⟨u47, hg47, hv⟩ := own_bind hv
      obtain ⟨T47, h47, X47, e47, W47, V'47, st47⟩ := own_iastore X46 C e46 V_b51 (j := w33) (x := w36) hg47 (hb hby d3_240)
      refine own_go st47 ?_
      replace V_o3 := V_o3.other W47 (own_ne (by omega))
      replace V_o4 := V_o4.other W47 (own_ne (by omega))
      replace V_o5 := V_o5.other W47 (own_ne (by omega))
      replace E_o0 := E_o0.wr W47
      have nq : @Ne Addr o0 b51 := own_ne (by omega)
      replace Fo0_8 := Fo0_8.other W47 (Or.inl nq)
      replace Fo0_a := Fo0_a.other W47 (Or.inl nq)
      replace Fo0_b := Fo0_b.other W47 (Or.inl nq)
      replace Fo0_c := Fo0_c.other W47 (Or.inl nq)
      replace Fo0_d := Fo0_d.other W47 (Or.inl nq)
      replace Fo0_e := Fo0_e.other W47 (Or.inl nq)
      replace Fo0_f := Fo0_f.other W47 (Or.inl nq)
      replace Fo0_10 := Fo0_10.other W47 (Or.inl nq)
      replace Fo0_11 := Fo0_11.other W47 (Or.inl nq)
      replace Fo0_12 := Fo0_12.other W47 (Or.inl nq)
      replace Fo0_13 := Fo0_13.other W47 (Or.inl nq)
      replace Fo0_14 := Fo0_14.other W47 (Or.inl nq)
      replace Fo0_15 := Fo0_15.other W47 (Or.inl nq)
      replace Fo0_16 := Fo0_16.other W47 (Or.inl nq)
      replace Fo0_17 := Fo0_17.other W47 (Or.inl nq)
      replace Fo0_18 := Fo0_18.other W47 (Or.inl nq)
      replace Fo0_19 := Fo0_19.other W47 (Or.inl nq)
      replace Fo0_1a := Fo0_1a.other W47 (Or.inl nq)
      replace Fo0_1b := Fo0_1b.other W47 (Or.inl nq)
      clear nq
      replace V_o6 := V_o6.other W47 (own_ne (by omega))
      replace V_b28 := V_b28.other W47 (own_ne (by omega))
      replace V_b35 := V_b35.other W47 (own_ne (by omega))
      replace V_b43 := V_b43.other W47 (own_ne (by omega))
      replace V_b59 := V_b59.other W47 (own_ne (by omega))
      replace V_b67 := V_b67.other W47 (own_ne (by omega))
      replace V_b157 := V_b157.other W47 (own_ne (by omega))
      replace V_b51 := V'47
      clear V'47
      replace K := K.wr W47 (Or.inr (by omega))
      replace N := Fr.snoc X47 N (by omega)
      clear st47 W47 hg47 X46 e46
      show own_WP p e below _ T47 (mkF m 241 #[.val (.ref o0), .val (.int x1), .val (.int x2), .val (.ref o3), .val (.ref o4), .val (.ref o5), .val (.ref o6), .val (.int x7), .val (.ref b157), .val (.int x9), .val (.int w33), .val (.int w36)] [])
      refine own_go (fun _ => XS.aloadN X47.here hx rfl (hb hby d3_241) rfl rfl) ?_
      show own_WP p e below _ T47 (mkF m 242 _ [(.ref o0)])
      obtain ⟨T48, X48, e48, st48⟩ := getF X47 hx hZ hown (host := "") (Or.inl (hw _ (List.mem_of_getElem? (i := 34) rfl))) Via.refl e47 Fo0_d (g := (mkF m 242 #[.val (.ref o0), .val (.int x1), .val (.int x2), .val (.ref o3), .val (.ref o4), .val (.ref o5), .val (.ref o6), .val (.int x7), .val (.ref b157), .val (.int x9), .val (.int w33), .val (.int w36)] [(.ref o0)])) rfl rfl (hb hby d3_242)
      refine own_go st48 ?_
      clear st48 X47 e47
      show own_WP p e below _ T48 (mkF m 245 _ [(.ref b51)])
      refine own_go (fun _ => XS.iload X48.here hx rfl (hb hby d3_245) rfl) ?_
      show own_WP p e below _ T48 (mkF m 247 _ [(.int w36), (.ref b51)])
      refine own_go (fun _ => XS.iload X48.here hx rfl (hb hby d3_247) rfl) ?_
      show own_WP p e below _ T48 (mkF m 249 _ [(.int w33), (.int w36), (.ref b51)])
      obtain ⟨u49, hg49, hv⟩ := own_bind hv
      obtain ⟨T49, h49, X49, e49, W49, V'49, st49⟩ := own_iastore X48 C e48 V_b51 (j := w36) (x := w33) hg49 (hb hby d3_249)
      refine own_go st49 ?_
      replace V_o3 := V_o3.other W49 (own_ne (by omega))
      replace V_o4 := V_o4.other W49 (own_ne (by omega))
      replace V_o5 := V_o5.other W49 (own_ne (by omega))
      replace E_o0 := E_o0.wr W49
      have nq : @Ne Addr o0 b51 := own_ne (by omega)
      replace Fo0_8 := Fo0_8.other W49 (Or.inl nq)
      replace Fo0_a := Fo0_a.other W49 (Or.inl nq)
      replace Fo0_b := Fo0_b.other W49 (Or.inl nq)
      replace Fo0_c := Fo0_c.other W49 (Or.inl nq)
      replace Fo0_d := Fo0_d.other W49 (Or.inl nq)
      replace Fo0_e := Fo0_e.other W49 (Or.inl nq)
      replace Fo0_f := Fo0_f.other W49 (Or.inl nq)
      replace Fo0_10 := Fo0_10.other W49 (Or.inl nq)
      replace Fo0_11 := Fo0_11.other W49 (Or.inl nq)
      replace Fo0_12 := Fo0_12.other W49 (Or.inl nq)
      replace Fo0_13 := Fo0_13.other W49 (Or.inl nq)
      replace Fo0_14 := Fo0_14.other W49 (Or.inl nq)
      replace Fo0_15 := Fo0_15.other W49 (Or.inl nq)
      replace Fo0_16 := Fo0_16.other W49 (Or.inl nq)
      replace Fo0_17 := Fo0_17.other W49 (Or.inl nq)
      replace Fo0_18 := Fo0_18.other W49 (Or.inl nq)
      replace Fo0_19 := Fo0_19.other W49 (Or.inl nq)
      replace Fo0_1a := Fo0_1a.other W49 (Or.inl nq)
      replace Fo0_1b := Fo0_1b.other W49 (Or.inl nq)
      clear nq
      replace V_o6 := V_o6.other W49 (own_ne (by omega))
      replace V_b28 := V_b28.other W49 (own_ne (by omega))
      replace V_b35 := V_b35.other W49 (own_ne (by omega))
      replace V_b43 := V_b43.other W49 (own_ne (by omega))
      replace V_b59 := V_b59.other W49 (own_ne (by omega))
      replace V_b67 := V_b67.other W49 (own_ne (by omega))
      replace V_b157 := V_b157.other W49 (own_ne (by omega))
      replace V_b51 := V'49
      clear V'49
      replace K := K.wr W49 (Or.inr (by omega))
      replace N := Fr.snoc X49 N (by omega)
      clear st49 W49 hg49 X48 e48
      show own_WP p e below _ T49 (mkF m 250 _ [])
      refine own_go (fun _ => XS.aloadN X49.here hx rfl (hb hby d3_250) rfl rfl) ?_
      show own_WP p e below _ T49 (mkF m 251 _ [(.ref o0)])
      obtain ⟨T50, X50, e50, st50⟩ := getF X49 hx hZ hown (host := "") (Or.inl (hw _ (List.mem_of_getElem? (i := 36) rfl))) Via.refl e49 Fo0_e (g := (mkF m 251 #[.val (.ref o0), .val (.int x1), .val (.int x2), .val (.ref o3), .val (.ref o4), .val (.ref o5), .val (.ref o6), .val (.int x7), .val (.ref b157), .val (.int x9), .val (.int w33), .val (.int w36)] [(.ref o0)])) rfl rfl (hb hby d3_251)
      refine own_go st50 ?_
      clear st50 X49 e49
      show own_WP p e below _ T50 (mkF m 254 _ [(.ref b59)])
      refine own_go (fun _ => XS.iload X50.here hx rfl (hb hby d3_254) rfl) ?_
      show own_WP p e below _ T50 (mkF m 256 #[.val (.ref o0), .val (.int x1), .val (.int x2), .val (.ref o3), .val (.ref o4), .val (.ref o5), .val (.ref o6), .val (.int x7), .val (.ref b157), .val (.int x9), .val (.int w33), .val (.int w36)] [(.int w33), (.ref b59)])
      refine own_go (fun _ => XS.aload X50.here hx rfl (hb hby d3_256) rfl rfl) ?_
      show own_WP p e below _ T50 (mkF m 258 _ [(.ref o5), (.int w33), (.ref b59)])
      refine own_go (fun _ => XS.iload X50.here hx rfl (hb hby d3_258) rfl) ?_
      show own_WP p e below _ T50 (mkF m 260 _ [(.int x9), (.ref o5), (.int w33), (.ref b59)])
      obtain ⟨w51, hg51, hv⟩ := own_bind hv
      refine own_go (own_iaload X50 C e50 V_o5 hg51 (hb hby d3_260)) ?_
      show own_WP p e below _ T50 (mkF m 261 _ [(.int w51), (.int w33), (.ref b59)])
      obtain ⟨u52, hg52, hv⟩ := own_bind hv
      obtain ⟨T52, h52, X52, e52, W52, V'52, st52⟩ := own_iastore X50 C e50 V_b59 (j := w33) (x := w51) hg52 (hb hby d3_261)
      refine own_go st52 ?_
      replace V_o3 := V_o3.other W52 (own_ne (by omega))
      replace V_o4 := V_o4.other W52 (own_ne (by omega))
      replace V_o5 := V_o5.other W52 (own_ne (by omega))
      replace E_o0 := E_o0.wr W52
      have nq : @Ne Addr o0 b59 := own_ne (by omega)
      replace Fo0_8 := Fo0_8.other W52 (Or.inl nq)
      replace Fo0_a := Fo0_a.other W52 (Or.inl nq)
      replace Fo0_b := Fo0_b.other W52 (Or.inl nq)
      replace Fo0_c := Fo0_c.other W52 (Or.inl nq)
      replace Fo0_d := Fo0_d.other W52 (Or.inl nq)
      replace Fo0_e := Fo0_e.other W52 (Or.inl nq)
      replace Fo0_f := Fo0_f.other W52 (Or.inl nq)
      replace Fo0_10 := Fo0_10.other W52 (Or.inl nq)
      replace Fo0_11 := Fo0_11.other W52 (Or.inl nq)
      replace Fo0_12 := Fo0_12.other W52 (Or.inl nq)
      replace Fo0_13 := Fo0_13.other W52 (Or.inl nq)
      replace Fo0_14 := Fo0_14.other W52 (Or.inl nq)
      replace Fo0_15 := Fo0_15.other W52 (Or.inl nq)
      replace Fo0_16 := Fo0_16.other W52 (Or.inl nq)
      replace Fo0_17 := Fo0_17.other W52 (Or.inl nq)
      replace Fo0_18 := Fo0_18.other W52 (Or.inl nq)
      replace Fo0_19 := Fo0_19.other W52 (Or.inl nq)
      replace Fo0_1a := Fo0_1a.other W52 (Or.inl nq)
      replace Fo0_1b := Fo0_1b.other W52 (Or.inl nq)
      clear nq
      replace V_o6 := V_o6.other W52 (own_ne (by omega))
      replace V_b28 := V_b28.other W52 (own_ne (by omega))
      replace V_b35 := V_b35.other W52 (own_ne (by omega))
      replace V_b43 := V_b43.other W52 (own_ne (by omega))
      replace V_b51 := V_b51.other W52 (own_ne (by omega))
      replace V_b67 := V_b67.other W52 (own_ne (by omega))
      replace V_b157 := V_b157.other W52 (own_ne (by omega))
      replace V_b59 := V'52
      clear V'52
      replace K := K.wr W52 (Or.inr (by omega))
      replace N := Fr.snoc X52 N (by omega)
      clear st52 W52 hg52 X50 e50
      show own_WP p e below _ T52 (mkF m 262 _ [])
      refine own_go (fun _ => XS.aloadN X52.here hx rfl (hb hby d3_262) rfl rfl) ?_
      show own_WP p e below _ T52 (mkF m 263 _ [(.ref o0)])
      obtain ⟨T53, X53, e53, st53⟩ := getF X52 hx hZ hown (host := "") (Or.inl (hw _ (List.mem_of_getElem? (i := 38) rfl))) Via.refl e52 Fo0_f (g := (mkF m 263 #[.val (.ref o0), .val (.int x1), .val (.int x2), .val (.ref o3), .val (.ref o4), .val (.ref o5), .val (.ref o6), .val (.int x7), .val (.ref b157), .val (.int x9), .val (.int w33), .val (.int w36)] [(.ref o0)])) rfl rfl (hb hby d3_263)
      refine own_go st53 ?_
      clear st53 X52 e52
      show own_WP p e below _ T53 (mkF m 266 _ [(.ref b67)])
      refine own_go (fun _ => XS.iload X53.here hx rfl (hb hby d3_266) rfl) ?_
      show own_WP p e below _ T53 (mkF m 268 _ [(.int w33), (.ref b67)])
      refine own_go (fun _ => XS.aload X53.here hx rfl (hb hby d3_268) rfl rfl) ?_
      show own_WP p e below _ T53 (mkF m 270 #[.val (.ref o0), .val (.int x1), .val (.int x2), .val (.ref o3), .val (.ref o4), .val (.ref o5), .val (.ref o6), .val (.int x7), .val (.ref b157), .val (.int x9), .val (.int w33), .val (.int w36)] [(.ref o6), (.int w33), (.ref b67)])
      refine own_go (fun _ => XS.iload X53.here hx rfl (hb hby d3_270) rfl) ?_
      show own_WP p e below _ T53 (mkF m 272 _ [(.int x9), (.ref o6), (.int w33), (.ref b67)])
      obtain ⟨w54, hg54, hv⟩ := own_bind hv
      refine own_go (own_laload X53 C e53 V_o6 hg54 (hb hby d3_272)) ?_
      show own_WP p e below _ T53 (mkF m 273 _ [(.long w54), (.int w33), (.ref b67)])
      obtain ⟨u55, hg55, hv⟩ := own_bind hv
      obtain ⟨T55, h55, X55, e55, W55, V'55, st55⟩ := own_lastore X53 C e53 V_b67 (j := w33) (x := w54) hg55 (hb hby d3_273)
      refine own_go st55 ?_
      replace V_o3 := V_o3.other W55 (own_ne (by omega))
      replace V_o4 := V_o4.other W55 (own_ne (by omega))
      replace V_o5 := V_o5.other W55 (own_ne (by omega))
      replace E_o0 := E_o0.wr W55
      have nq : @Ne Addr o0 b67 := own_ne (by omega)
      replace Fo0_8 := Fo0_8.other W55 (Or.inl nq)
      replace Fo0_a := Fo0_a.other W55 (Or.inl nq)
      replace Fo0_b := Fo0_b.other W55 (Or.inl nq)
      replace Fo0_c := Fo0_c.other W55 (Or.inl nq)
      replace Fo0_d := Fo0_d.other W55 (Or.inl nq)
      replace Fo0_e := Fo0_e.other W55 (Or.inl nq)
      replace Fo0_f := Fo0_f.other W55 (Or.inl nq)
      replace Fo0_10 := Fo0_10.other W55 (Or.inl nq)
      replace Fo0_11 := Fo0_11.other W55 (Or.inl nq)
      replace Fo0_12 := Fo0_12.other W55 (Or.inl nq)
      replace Fo0_13 := Fo0_13.other W55 (Or.inl nq)
      replace Fo0_14 := Fo0_14.other W55 (Or.inl nq)
      replace Fo0_15 := Fo0_15.other W55 (Or.inl nq)
      replace Fo0_16 := Fo0_16.other W55 (Or.inl nq)
      replace Fo0_17 := Fo0_17.other W55 (Or.inl nq)
      replace Fo0_18 := Fo0_18.other W55 (Or.inl nq)
      replace Fo0_19 := Fo0_19.other W55 (Or.inl nq)
      replace Fo0_1a := Fo0_1a.other W55 (Or.inl nq)
      replace Fo0_1b := Fo0_1b.other W55 (Or.inl nq)
      clear nq
      replace V_o6 := V_o6.other W55 (own_ne (by omega))
      replace V_b28 := V_b28.other W55 (own_ne (by omega))
      replace V_b35 := V_b35.other W55 (own_ne (by omega))
      replace V_b43 := V_b43.other W55 (own_ne (by omega))
      replace V_b51 := V_b51.other W55 (own_ne (by omega))
      replace V_b59 := V_b59.other W55 (own_ne (by omega))
      replace V_b157 := V_b157.other W55 (own_ne (by omega))
      replace V_b67 := V'55
      clear V'55
      replace K := K.wr W55 (Or.inr (by omega))
      replace N := Fr.snoc X55 N (by omega)
      clear st55 W55 hg55 X53 e53
      show own_WP p e below _ T55 (mkF m 274 _ [])
      refine own_go (fun _ => XS.aloadN X55.here hx rfl (hb hby d3_274) rfl rfl) ?_
      show own_WP p e below _ T55 (mkF m 275 _ [(.ref o0)])
      obtain ⟨T56, X56, e56, st56⟩ := getF X55 hx hZ hown (host := "") (Or.inl (hw _ (List.mem_of_getElem? (i := 38) rfl))) Via.refl e55 Fo0_f (g := (mkF m 275 #[.val (.ref o0), .val (.int x1), .val (.int x2), .val (.ref o3), .val (.ref o4), .val (.ref o5), .val (.ref o6), .val (.int x7), .val (.ref b157), .val (.int x9), .val (.int w33), .val (.int w36)] [(.ref o0)])) rfl rfl (hb hby d3_275)
      refine own_go st56 ?_
      clear st56 X55 e55
      show own_WP p e below _ T56 (mkF m 278 _ [(.ref b67)])
      refine own_go (fun _ => XS.iload X56.here hx rfl (hb hby d3_278) rfl) ?_
      show own_WP p e below _ T56 (mkF m 280 _ [(.int w36), (.ref b67)])
      refine own_go (fun _ => XS.aload X56.here hx rfl (hb hby d3_280) rfl rfl) ?_
      show own_WP p e below _ T56 (mkF m 282 _ [(.ref o6), (.int w36), (.ref b67)])
      refine own_go (fun _ => XS.iload X56.here hx rfl (hb hby d3_282) rfl) ?_
      show own_WP p e below _ T56 (mkF m 284 #[.val (.ref o0), .val (.int x1), .val (.int x2), .val (.ref o3), .val (.ref o4), .val (.ref o5), .val (.ref o6), .val (.int x7), .val (.ref b157), .val (.int x9), .val (.int w33), .val (.int w36)] [(.int x9), (.ref o6), (.int w36), (.ref b67)])
      obtain ⟨w57, hg57, hv⟩ := own_bind hv
      refine own_go (own_laload X56 C e56 V_o6 hg57 (hb hby d3_284)) ?_
      show own_WP p e below _ T56 (mkF m 285 _ [(.long w57), (.int w36), (.ref b67)])
      refine own_go (fun _ => XS.lneg X56.here hx rfl (hb hby d3_285) rfl) ?_
      show own_WP p e below _ T56 (mkF m 286 _ [(.long (-w57)), (.int w36), (.ref b67)])
      obtain ⟨u58, hg58, hv⟩ := own_bind hv
      obtain ⟨T58, h58, X58, e58, W58, V'58, st58⟩ := own_lastore X56 C e56 V_b67 (j := w36) (x := (-w57)) hg58 (hb hby d3_286)
      refine own_go st58 ?_
      replace V_o3 := V_o3.other W58 (own_ne (by omega))
      replace V_o4 := V_o4.other W58 (own_ne (by omega))
      replace V_o5 := V_o5.other W58 (own_ne (by omega))
      replace E_o0 := E_o0.wr W58
      have nq : @Ne Addr o0 b67 := own_ne (by omega)
      replace Fo0_8 := Fo0_8.other W58 (Or.inl nq)
      replace Fo0_a := Fo0_a.other W58 (Or.inl nq)
      replace Fo0_b := Fo0_b.other W58 (Or.inl nq)
      replace Fo0_c := Fo0_c.other W58 (Or.inl nq)
      replace Fo0_d := Fo0_d.other W58 (Or.inl nq)
      replace Fo0_e := Fo0_e.other W58 (Or.inl nq)
      replace Fo0_f := Fo0_f.other W58 (Or.inl nq)
      replace Fo0_10 := Fo0_10.other W58 (Or.inl nq)
      replace Fo0_11 := Fo0_11.other W58 (Or.inl nq)
      replace Fo0_12 := Fo0_12.other W58 (Or.inl nq)
      replace Fo0_13 := Fo0_13.other W58 (Or.inl nq)
      replace Fo0_14 := Fo0_14.other W58 (Or.inl nq)
      replace Fo0_15 := Fo0_15.other W58 (Or.inl nq)
      replace Fo0_16 := Fo0_16.other W58 (Or.inl nq)
      replace Fo0_17 := Fo0_17.other W58 (Or.inl nq)
      replace Fo0_18 := Fo0_18.other W58 (Or.inl nq)
      replace Fo0_19 := Fo0_19.other W58 (Or.inl nq)
      replace Fo0_1a := Fo0_1a.other W58 (Or.inl nq)
      replace Fo0_1b := Fo0_1b.other W58 (Or.inl nq)
      clear nq
      replace V_o6 := V_o6.other W58 (own_ne (by omega))
      replace V_b28 := V_b28.other W58 (own_ne (by omega))
      replace V_b35 := V_b35.other W58 (own_ne (by omega))
      replace V_b43 := V_b43.other W58 (own_ne (by omega))
      replace V_b51 := V_b51.other W58 (own_ne (by omega))
      replace V_b59 := V_b59.other W58 (own_ne (by omega))
      replace V_b157 := V_b157.other W58 (own_ne (by omega))
      replace V_b67 := V'58
      clear V'58
      replace K := K.wr W58 (Or.inr (by omega))
      replace N := Fr.snoc X58 N (by omega)
      clear st58 W58 hg58 X56 e56
      show own_WP p e below _ T58 (mkF m 287 #[.val (.ref o0), .val (.int x1), .val (.int x2), .val (.ref o3), .val (.ref o4), .val (.ref o5), .val (.ref o6), .val (.int x7), .val (.ref b157), .val (.int x9), .val (.int w33), .val (.int w36)] [])
      refine own_go (fun _ => XS.iinc X58.here hx rfl (hb hby d3_287) rfl rfl) ?_
      show own_WP p e below _ T58 (mkF m 290 #[.val (.ref o0), .val (.int x1), .val (.int x2), .val (.ref o3), .val (.ref o4), .val (.ref o5), .val (.ref o6), .val (.int x7), .val (.ref b157), .val (.int (x9 + (1 : Int32))), .val (.int w33), .val (.int w36)] [])
      refine own_go (fun _ => XS.goto X58.here hx rfl (pc0 := 290) (pc' := 165) rfl (hb hby d3_290) (by decide) (by decide)) ?_
      exact ih X58 e58 N K o_o3_o4 o_o4_o5 o_o5_o0 o_o0_o6 o_o6_b28 o_b28_b35 o_b35_b43 o_b43_b51 o_b51_b59 o_b59_b67 o_b67_b157 g_o3 z_b28 V_o3 V_o4 V_o5 E_o0 Fo0_8 Fo0_a Fo0_b Fo0_c Fo0_d Fo0_e Fo0_f Fo0_10 Fo0_11 Fo0_12 Fo0_13 Fo0_14 Fo0_15 Fo0_16 Fo0_17 Fo0_18 Fo0_19 Fo0_1a Fo0_1b V_o6 V_b28 V_b35 V_b43 V_b51 V_b59 V_b67 V_b157 x1 x2 x7 (x9 + (1 : Int32)) (.val (.int w33)) (One.val rfl) (.val (.int w36)) (One.val rfl) hv
    · replace hv := (if_neg h168).symm.trans hv
      refine own_go (fun _ => XS.icmpYes X.here hx rfl (pc0 := 168) (pc' := 293) rfl (hb hby d3_168) rfl (XT.ii_ge_t h168) (by decide) (by decide)) ?_
      clear Fo0_f
      have o_b59_b157 : b59 < b157 := by omega
      clear V_b67
      clear V_b157
      have g_o4 : n0 ≤ o4 := by omega
      clear V_o3
      have g_o5 : n0 ≤ o5 := by omega
      clear V_o4
      have g_o0 : n0 ≤ o0 := by omega
      clear V_o5
      have o_o0_b28 : o0 < b28 := by omega
      clear V_o6
      exact b3_293 hw C Z0 rr hP X e0 N K o_o0_b28 o_b28_b35 o_b35_b43 o_b43_b51 o_b51_b59 g_o0 z_b28 E_o0 Fo0_8 Fo0_a Fo0_b Fo0_c Fo0_d Fo0_e Fo0_10 Fo0_11 Fo0_12 Fo0_13 Fo0_14 Fo0_15 Fo0_16 Fo0_17 Fo0_18 Fo0_19 Fo0_1a Fo0_1b V_b28 V_b35 V_b43 V_b51 V_b59 x1 x2 (.val (.ref o3)) (One.val rfl) (.val (.ref o4)) (One.val rfl) (.val (.ref o5)) (One.val rfl) (.val (.ref o6)) (One.val rfl) x7 (.val (.ref b157)) (One.val rfl) x9 s10 hs10 s11 hs11 hv
def f3_121 : Nat → (List Int32) → (List Int32) → (List Int32) → Int64 → (List Int64) → Int32 → (List Int32) → (List Int32) → (List Int32) → (List Int32) → (List Int32) → (List Int64) → Int32 → Int32 → Int32 → Option (Int32 × (List Int32) × (List Int32) × (List Int32) × (List Int32) × (List Int32) × (List Int32) × (List Int32) × (List Int32) × (List Int32))
  | 0 => fun _ _ _ _ _ _ _ _ _ _ _ _ _ _ _ => none
  | k + 1 => fun ta he ca s_scale co c_o0_nodes v_b28 v_b35 v_b43 v_b51 v_b59 v_b67 x1 x2 x8 => (if x8 < x1 then ((own_get v_b28 (x8 + (1 : Int32))).bind fun w26 => ((own_get v_b28 x8).bind fun w28 => ((own_set v_b28 (x8 + (1 : Int32)) (w26 + w28)).bind fun u29 => (f3_121 k ta he ca s_scale co c_o0_nodes u29 v_b35 v_b43 v_b51 v_b59 v_b67 x1 x2 (x8 + (1 : Int32)))))) else ((f6_0 v_b28 x1).bind fun rr31 => (f3_165 5 ta he ca s_scale co c_o0_nodes v_b28 v_b35 v_b43 v_b51 v_b59 v_b67 rr31 x1 x2 (0 : Int32))))
set_option maxRecDepth 65536 in
set_option maxHeartbeats 40000000 in
theorem b3_121 {p : Program} {l : Launch} {e : Env} {s : State} {m : MethodId} {args : Array Value} {below : List Frame} {meth : Method} {c : Code} {Z : State} {a0 : Array Value} {h0 : Heap} {n0 : Nat} {P : Option Value → Heap → List Loc → Prop} (hw : ∀ d ∈ tables_1, d.before a0 Z = true) (C : own_Ctx p s m meth c Z (⟨"com/example/gridfare/gridfare/engine/ResidualNetwork", "<init>", "(II[I[I[I[J)V"⟩ : MethodName) prog_42_method_1_code 12 none) (Z0 : n0 ≤ h0.size) {o3 : Nat} {o4 : Nat} {o5 : Nat} {o0 : Nat} {o6 : Nat} {ta : List Int32} {he : List Int32} {ca : List Int32} {s_scale : Int64} {co : List Int64} (rr : Int32 × (List Int32) × (List Int32) × (List Int32) × (List Int32) × (List Int32) × (List Int32) × (List Int32) × (List Int32) × (List Int32)) (hP : ∀ v h L, Fr n0 L → Keep h0 h [o0] → E3 Z h0 o3 o4 o5 o0 o6 ta he ca s_scale co rr v h → P v h L) (k : Nat) : ∀ {T : State} {locs : List Loc} {h : Heap} {b28 : Nat} {b35 : Nat} {b43 : Nat} {b51 : Nat} {b59 : Nat} {b67 : Nat} {c_o0_nodes : Int32} {v_b28 : List Int32} {v_b35 : List Int32} {v_b43 : List Int32} {v_b51 : List Int32} {v_b59 : List Int32} {v_b67 : List Int64} (X : Stand p l e rmR3 s m args below meth c T locs 6 40) (e0 : T.heap = h) (N : Fr n0 locs) (K : Keep h0 h [o0]) (o_o3_o4 : o3 < o4) (o_o4_o5 : o4 < o5) (o_o5_o0 : o5 < o0) (o_o0_o6 : o0 < o6) (o_o6_b28 : o6 < b28) (o_b28_b35 : b28 < b35) (o_b35_b43 : b35 < b43) (o_b43_b51 : b43 < b51) (o_b51_b59 : b51 < b59) (o_b59_b67 : b59 < b67) (g_o3 : n0 ≤ o3) (z_b28 : h0.size ≤ b28) (V_o3 : own_AI Z h o3 .int ta) (V_o4 : own_AI Z h o4 .int he) (V_o5 : own_AI Z h o5 .int ca) (E_o0 : Exa Z h o0 "com/example/gridfare/gridfare/engine/ResidualNetwork") (Fo0_8 : Fld Z h o0 "com/example/gridfare/gridfare/engine/ResidualNetwork" "nodes" "I" (.int c_o0_nodes)) (Fo0_a : Fld Z h o0 "com/example/gridfare/gridfare/engine/ResidualNetwork" "firstArc" "[I" (.ref b28)) (Fo0_b : Fld Z h o0 "com/example/gridfare/gridfare/engine/ResidualNetwork" "added" "[I" (.ref b35)) (Fo0_c : Fld Z h o0 "com/example/gridfare/gridfare/engine/ResidualNetwork" "head" "[I" (.ref b43)) (Fo0_d : Fld Z h o0 "com/example/gridfare/gridfare/engine/ResidualNetwork" "twin" "[I" (.ref b51)) (Fo0_e : Fld Z h o0 "com/example/gridfare/gridfare/engine/ResidualNetwork" "residual" "[I" (.ref b59)) (Fo0_f : Fld Z h o0 "com/example/gridfare/gridfare/engine/ResidualNetwork" "cost" "[J" (.ref b67)) (Fo0_10 : Fld Z h o0 "com/example/gridfare/gridfare/engine/ResidualNetwork" "level" "[I" .null) (Fo0_11 : Fld Z h o0 "com/example/gridfare/gridfare/engine/ResidualNetwork" "levelled" "[I" .null) (Fo0_12 : Fld Z h o0 "com/example/gridfare/gridfare/engine/ResidualNetwork" "arcInto" "[I" .null) (Fo0_13 : Fld Z h o0 "com/example/gridfare/gridfare/engine/ResidualNetwork" "price" "[J" .null) (Fo0_14 : Fld Z h o0 "com/example/gridfare/gridfare/engine/ResidualNetwork" "excess" "[J" .null) (Fo0_15 : Fld Z h o0 "com/example/gridfare/gridfare/engine/ResidualNetwork" "active" "[I" .null) (Fo0_16 : Fld Z h o0 "com/example/gridfare/gridfare/engine/ResidualNetwork" "queued" "[Z" .null) (Fo0_17 : Fld Z h o0 "com/example/gridfare/gridfare/engine/ResidualNetwork" "nearestDeficit" "Lcom/example/gridfare/gridfare/engine/BucketQueue;" .null) (Fo0_18 : Fld Z h o0 "com/example/gridfare/gridfare/engine/ResidualNetwork" "settled" "[Z" .null) (Fo0_19 : Fld Z h o0 "com/example/gridfare/gridfare/engine/ResidualNetwork" "potential" "[J" .null) (Fo0_1a : Fld Z h o0 "com/example/gridfare/gridfare/engine/ResidualNetwork" "lowering" "Lcom/example/gridfare/gridfare/engine/LoweringTree;" .null) (Fo0_1b : Fld Z h o0 "com/example/gridfare/gridfare/engine/ResidualNetwork" "currentArc" "[I" .null) (V_o6 : own_AJ Z h o6 .long co) (V_b28 : own_AI Z h b28 .int v_b28) (V_b35 : own_AI Z h b35 .int v_b35) (V_b43 : own_AI Z h b43 .int v_b43) (V_b51 : own_AI Z h b51 .int v_b51) (V_b59 : own_AI Z h b59 .int v_b59) (V_b67 : own_AJ Z h b67 .long v_b67) (x1 : Int32) (x2 : Int32) (x7 : Int32) (x8 : Int32) (hv : f3_121 k ta he ca s_scale co c_o0_nodes v_b28 v_b35 v_b43 v_b51 v_b59 v_b67 x1 x2 x8 = some rr),
    own_WP p e below (own_Q s P rmR3.cells rmR3.slots) T (mkF m 121 #[.val (.ref o0), .val (.int x1), .val (.int x2), .val (.ref o3), .val (.ref o4), .val (.ref o5), .val (.ref o6), .val (.int x7), .val (.int x8), .unset, .unset, .unset] []) := by
  obtain ⟨hx, hZ, hby, hml, hown, hnm, hret, hlk⟩ := id C
  replace hown : s.vm.findClass "com/example/gridfare/gridfare/engine/ResidualNetwork" = some m.cls := hown
  induction k with
  | zero => intros; rename_i hv; cases hv
  | succ k ih =>
    intro T locs h b28 b35 b43 b51 b59 b67 c_o0_nodes v_b28 v_b35 v_b43 v_b51 v_b59 v_b67 X e0 N K o_o3_o4 o_o4_o5 o_o5_o0 o_o0_o6 o_o6_b28 o_b28_b35 o_b35_b43 o_b43_b51 o_b51_b59 o_b59_b67 g_o3 z_b28 V_o3 V_o4 V_o5 E_o0 Fo0_8 Fo0_a Fo0_b Fo0_c Fo0_d Fo0_e Fo0_f Fo0_10 Fo0_11 Fo0_12 Fo0_13 Fo0_14 Fo0_15 Fo0_16 Fo0_17 Fo0_18 Fo0_19 Fo0_1a Fo0_1b V_o6 V_b28 V_b35 V_b43 V_b51 V_b59 V_b67 x1 x2 x7 x8 hv
    unfold f3_121 at hv
    show own_WP p e below _ T (mkF m 121 #[.val (.ref o0), .val (.int x1), .val (.int x2), .val (.ref o3), .val (.ref o4), .val (.ref o5), .val (.ref o6), .val (.int x7), .val (.int x8), .unset, .unset, .unset] [])
    refine own_go (fun _ => XS.iload X.here hx rfl (hb hby d3_121) rfl) ?_
    show own_WP p e below _ T (mkF m 123 _ [(.int x8)])
    refine own_go (fun _ => XS.iloadN X.here hx rfl (hb hby d3_123) rfl) ?_
    show own_WP p e below _ T (mkF m 124 _ [(.int x1), (.int x8)])
    by_cases h124 : x8 < x1
    · replace hv := (if_pos h124).symm.trans hv
      refine own_go (fun _ => XS.icmpNo X.here hx rfl (hb hby d3_124) rfl (XT.ii_ge_f h124)) ?_
      show own_WP p e below _ T (mkF m 127 #[.val (.ref o0), .val (.int x1), .val (.int x2), .val (.ref o3), .val (.ref o4), .val (.ref o5), .val (.ref o6), .val (.int x7), .val (.int x8), .unset, .unset, .unset] [])
      refine own_go (fun _ => XS.aloadN X.here hx rfl (hb hby d3_127) rfl rfl) ?_
      show own_WP p e below _ T (mkF m 128 _ [(.ref o0)])
      obtain ⟨T25, X25, e25, st25⟩ := getF X hx hZ hown (host := "") (Or.inl (hw _ (List.mem_of_getElem? (i := 28) rfl))) Via.refl e0 Fo0_a (g := (mkF m 128 #[.val (.ref o0), .val (.int x1), .val (.int x2), .val (.ref o3), .val (.ref o4), .val (.ref o5), .val (.ref o6), .val (.int x7), .val (.int x8), .unset, .unset, .unset] [(.ref o0)])) rfl rfl (hb hby d3_128)
      refine own_go st25 ?_
      clear st25 X e0
      show own_WP p e below _ T25 (mkF m 131 _ [(.ref b28)])
      refine own_go (fun _ => XS.iload X25.here hx rfl (hb hby d3_131) rfl) ?_
      show own_WP p e below _ T25 (mkF m 133 _ [(.int x8), (.ref b28)])
      refine own_go (fun _ => XS.iconst X25.here hx rfl (hb hby d3_133)) ?_
      show own_WP p e below _ T25 (mkF m 134 _ [(.int (1 : Int32)), (.int x8), (.ref b28)])
      refine own_go (fun _ => XS.iadd X25.here hx rfl (hb hby d3_134) rfl) ?_
      show own_WP p e below _ T25 (mkF m 135 _ [(.int (x8 + (1 : Int32))), (.ref b28)])
      refine own_go (fun _ => XT.dup2 X25.here hx rfl (hb hby d3_135) rfl rfl rfl) ?_
      show own_WP p e below _ T25 (mkF m 136 _ [(.int (x8 + (1 : Int32))), (.ref b28), (.int (x8 + (1 : Int32))), (.ref b28)])
      obtain ⟨w26, hg26, hv⟩ := own_bind hv
      refine own_go (own_iaload X25 C e25 V_b28 hg26 (hb hby d3_136)) ?_
      show own_WP p e below _ T25 (mkF m 137 _ [(.int w26), (.int (x8 + (1 : Int32))), (.ref b28)])
      refine own_go (fun _ => XS.aloadN X25.here hx rfl (hb hby d3_137) rfl rfl) ?_
      show own_WP p e below _ T25 (mkF m 138 #[.val (.ref o0), .val (.int x1), .val (.int x2), .val (.ref o3), .val (.ref o4), .val (.ref o5), .val (.ref o6), .val (.int x7), .val (.int x8), .unset, .unset, .unset] [(.ref o0), (.int w26), (.int (x8 + (1 : Int32))), (.ref b28)])
      obtain ⟨T27, X27, e27, st27⟩ := getF X25 hx hZ hown (host := "") (Or.inl (hw _ (List.mem_of_getElem? (i := 28) rfl))) Via.refl e25 Fo0_a (g := (mkF m 138 #[.val (.ref o0), .val (.int x1), .val (.int x2), .val (.ref o3), .val (.ref o4), .val (.ref o5), .val (.ref o6), .val (.int x7), .val (.int x8), .unset, .unset, .unset] [(.ref o0), (.int w26), (.int (x8 + (1 : Int32))), (.ref b28)])) rfl rfl (hb hby d3_138)
      refine own_go st27 ?_
      clear st27 X25 e25
      show own_WP p e below _ T27 (mkF m 141 _ [(.ref b28), (.int w26), (.int (x8 + (1 : Int32))), (.ref b28)])
      refine own_go (fun _ => XS.iload X27.here hx rfl (hb hby d3_141) rfl) ?_
      show own_WP p e below _ T27 (mkF m 143 _ [(.int x8), (.ref b28), (.int w26), (.int (x8 + (1 : Int32))), (.ref b28)])
      obtain ⟨w28, hg28, hv⟩ := own_bind hv
      refine own_go (own_iaload X27 C e27 V_b28 hg28 (hb hby d3_143)) ?_
      show own_WP p e below _ T27 (mkF m 144 _ [(.int w28), (.int w26), (.int (x8 + (1 : Int32))), (.ref b28)])
      refine own_go (fun _ => XS.iadd X27.here hx rfl (hb hby d3_144) rfl) ?_
      show own_WP p e below _ T27 (mkF m 145 _ [(.int (w26 + w28)), (.int (x8 + (1 : Int32))), (.ref b28)])
      obtain ⟨u29, hg29, hv⟩ := own_bind hv
      obtain ⟨T29, h29, X29, e29, W29, V'29, st29⟩ := own_iastore X27 C e27 V_b28 (j := (x8 + (1 : Int32))) (x := (w26 + w28)) hg29 (hb hby d3_145)
      refine own_go st29 ?_
      replace V_o3 := V_o3.other W29 (own_ne (by omega))
      replace V_o4 := V_o4.other W29 (own_ne (by omega))
      replace V_o5 := V_o5.other W29 (own_ne (by omega))
      replace E_o0 := E_o0.wr W29
      have nq : @Ne Addr o0 b28 := own_ne (by omega)
      replace Fo0_8 := Fo0_8.other W29 (Or.inl nq)
      replace Fo0_a := Fo0_a.other W29 (Or.inl nq)
      replace Fo0_b := Fo0_b.other W29 (Or.inl nq)
      replace Fo0_c := Fo0_c.other W29 (Or.inl nq)
      replace Fo0_d := Fo0_d.other W29 (Or.inl nq)
      replace Fo0_e := Fo0_e.other W29 (Or.inl nq)
      replace Fo0_f := Fo0_f.other W29 (Or.inl nq)
      replace Fo0_10 := Fo0_10.other W29 (Or.inl nq)
      replace Fo0_11 := Fo0_11.other W29 (Or.inl nq)
      replace Fo0_12 := Fo0_12.other W29 (Or.inl nq)
      replace Fo0_13 := Fo0_13.other W29 (Or.inl nq)
      replace Fo0_14 := Fo0_14.other W29 (Or.inl nq)
      replace Fo0_15 := Fo0_15.other W29 (Or.inl nq)
      replace Fo0_16 := Fo0_16.other W29 (Or.inl nq)
      replace Fo0_17 := Fo0_17.other W29 (Or.inl nq)
      replace Fo0_18 := Fo0_18.other W29 (Or.inl nq)
      replace Fo0_19 := Fo0_19.other W29 (Or.inl nq)
      replace Fo0_1a := Fo0_1a.other W29 (Or.inl nq)
      replace Fo0_1b := Fo0_1b.other W29 (Or.inl nq)
      clear nq
      replace V_o6 := V_o6.other W29 (own_ne (by omega))
      replace V_b35 := V_b35.other W29 (own_ne (by omega))
      replace V_b43 := V_b43.other W29 (own_ne (by omega))
      replace V_b51 := V_b51.other W29 (own_ne (by omega))
      replace V_b59 := V_b59.other W29 (own_ne (by omega))
      replace V_b67 := V_b67.other W29 (own_ne (by omega))
      replace V_b28 := V'29
      clear V'29
      replace K := K.wr W29 (Or.inr (by omega))
      replace N := Fr.snoc X29 N (by omega)
      clear st29 W29 hg29 X27 e27
      show own_WP p e below _ T29 (mkF m 146 #[.val (.ref o0), .val (.int x1), .val (.int x2), .val (.ref o3), .val (.ref o4), .val (.ref o5), .val (.ref o6), .val (.int x7), .val (.int x8), .unset, .unset, .unset] [])
      refine own_go (fun _ => XS.iinc X29.here hx rfl (hb hby d3_146) rfl rfl) ?_
      show own_WP p e below _ T29 (mkF m 149 #[.val (.ref o0), .val (.int x1), .val (.int x2), .val (.ref o3), .val (.ref o4), .val (.ref o5), .val (.ref o6), .val (.int x7), .val (.int (x8 + (1 : Int32))), .unset, .unset, .unset] [])
      refine own_go (fun _ => XS.goto X29.here hx rfl (pc0 := 149) (pc' := 121) rfl (hb hby d3_149) (by decide) (by decide)) ?_
      exact ih X29 e29 N K o_o3_o4 o_o4_o5 o_o5_o0 o_o0_o6 o_o6_b28 o_b28_b35 o_b35_b43 o_b43_b51 o_b51_b59 o_b59_b67 g_o3 z_b28 V_o3 V_o4 V_o5 E_o0 Fo0_8 Fo0_a Fo0_b Fo0_c Fo0_d Fo0_e Fo0_f Fo0_10 Fo0_11 Fo0_12 Fo0_13 Fo0_14 Fo0_15 Fo0_16 Fo0_17 Fo0_18 Fo0_19 Fo0_1a Fo0_1b V_o6 V_b28 V_b35 V_b43 V_b51 V_b59 V_b67 x1 x2 x7 (x8 + (1 : Int32)) hv
    · replace hv := (if_neg h124).symm.trans hv
      refine own_go (fun _ => XS.icmpYes X.here hx rfl (pc0 := 124) (pc' := 152) rfl (hb hby d3_124) rfl (XT.ii_ge_t h124) (by decide) (by decide)) ?_
      show own_WP p e below _ T (mkF m 152 #[.val (.ref o0), .val (.int x1), .val (.int x2), .val (.ref o3), .val (.ref o4), .val (.ref o5), .val (.ref o6), .val (.int x7), .val (.int x8), .unset, .unset, .unset] [])
      refine own_go (fun _ => XS.aloadN X.here hx rfl (hb hby d3_152) rfl rfl) ?_
      show own_WP p e below _ T (mkF m 153 _ [(.ref o0)])
      obtain ⟨T30, X30, e30, st30⟩ := getF X hx hZ hown (host := "") (Or.inl (hw _ (List.mem_of_getElem? (i := 28) rfl))) Via.refl e0 Fo0_a (g := (mkF m 153 #[.val (.ref o0), .val (.int x1), .val (.int x2), .val (.ref o3), .val (.ref o4), .val (.ref o5), .val (.ref o6), .val (.int x7), .val (.int x8), .unset, .unset, .unset] [(.ref o0)])) rfl rfl (hb hby d3_153)
      refine own_go st30 ?_
      clear st30 X e0
      show own_WP p e below _ T30 (mkF m 156 _ [(.ref b28)])
      refine own_go (fun _ => XS.iloadN X30.here hx rfl (hb hby d3_156) rfl) ?_
      show own_WP p e below _ T30 (mkF m 157 #[.val (.ref o0), .val (.int x1), .val (.int x2), .val (.ref o3), .val (.ref o4), .val (.ref o5), .val (.ref o6), .val (.int x7), .val (.int x8), .unset, .unset, .unset] [(.int x1), (.ref b28)])
      obtain ⟨rr31, hf31, hv⟩ := own_bind hv
      obtain ⟨T31, v31, L31, X31, ⟨N31, K31, Q31⟩, st31⟩ := own_callS X30 C (argsL := [(.ref b28), (.int x1)]) (rm6 l Z a0 hw n0 h (by have q := K.1; omega) (by omega) V_b28 x1 rr31 hf31) (hw _ (List.mem_of_getElem? (i := 40) rfl)) (hw _ (List.mem_of_getElem? (i := 41) rfl)) (hw _ (List.mem_of_getElem? (i := 42) rfl)) (hw _ (List.mem_of_getElem? (i := 43) rfl)) (by decide) e30 (W := 0) (pc := 157) (Ls := #[.val (.ref o0), .val (.int x1), .val (.int x2), .val (.ref o3), .val (.ref o4), .val (.ref o5), .val (.ref o6), .val (.int x7), .val (.int x8), .unset, .unset, .unset]) rfl (lenOf pd6 rfl) (rest := []) (stk := [(.int x1), (.ref b28)]) rfl (Nat.le_of_ble_eq_true rfl) (hb hby d3_157) (by decide) (by decide) (by decide) (by decide)
      replace N := Fr.app N N31
      have lt31 : b67 < h.size := V_b67.lt
      replace V_o3 := V_o3.keep K31 nin0
      replace V_o4 := V_o4.keep K31 nin0
      replace V_o5 := V_o5.keep K31 nin0
      replace E_o0 := E_o0.keep K31
      have nq : o0 ∉ ([] : List Addr) := nin0
      replace Fo0_8 := Fo0_8.keep K31 nq
      replace Fo0_a := Fo0_a.keep K31 nq
      replace Fo0_b := Fo0_b.keep K31 nq
      replace Fo0_c := Fo0_c.keep K31 nq
      replace Fo0_d := Fo0_d.keep K31 nq
      replace Fo0_e := Fo0_e.keep K31 nq
      replace Fo0_f := Fo0_f.keep K31 nq
      replace Fo0_10 := Fo0_10.keep K31 nq
      replace Fo0_11 := Fo0_11.keep K31 nq
      replace Fo0_12 := Fo0_12.keep K31 nq
      replace Fo0_13 := Fo0_13.keep K31 nq
      replace Fo0_14 := Fo0_14.keep K31 nq
      replace Fo0_15 := Fo0_15.keep K31 nq
      replace Fo0_16 := Fo0_16.keep K31 nq
      replace Fo0_17 := Fo0_17.keep K31 nq
      replace Fo0_18 := Fo0_18.keep K31 nq
      replace Fo0_19 := Fo0_19.keep K31 nq
      replace Fo0_1a := Fo0_1a.keep K31 nq
      replace Fo0_1b := Fo0_1b.keep K31 nq
      clear nq
      replace V_o6 := V_o6.keep K31 nin0
      replace V_b28 := V_b28.keep K31 nin0
      replace V_b35 := V_b35.keep K31 nin0
      replace V_b43 := V_b43.keep K31 nin0
      replace V_b51 := V_b51.keep K31 nin0
      replace V_b59 := V_b59.keep K31 nin0
      replace V_b67 := V_b67.keep K31 nin0
      obtain ⟨b157, zz31, rfl, V_b157⟩ := Q31
      have o_b67_b157 : b67 < b157 := by omega
      replace K := K.trans K31 all0
      refine own_go st31 ?_
      clear st31 N31 K31 hf31 X30 e30
      show own_WP p e below _ T31 (mkF m 160 #[.val (.ref o0), .val (.int x1), .val (.int x2), .val (.ref o3), .val (.ref o4), .val (.ref o5), .val (.ref o6), .val (.int x7), .val (.int x8), .unset, .unset, .unset] [(.ref b157)])
      refine own_go (fun _ => XS.astore X31.here hx rfl (hb hby d3_160) rfl rfl rfl) ?_
      show own_WP p e below _ T31 (mkF m 162 #[.val (.ref o0), .val (.int x1), .val (.int x2), .val (.ref o3), .val (.ref o4), .val (.ref o5), .val (.ref o6), .val (.int x7), .val (.ref b157), .unset, .unset, .unset] [])
      refine own_go (fun _ => XS.iconst X31.here hx rfl (hb hby d3_162)) ?_
      show own_WP p e below _ T31 (mkF m 163 #[.val (.ref o0), .val (.int x1), .val (.int x2), .val (.ref o3), .val (.ref o4), .val (.ref o5), .val (.ref o6), .val (.int x7), .val (.ref b157), .unset, .unset, .unset] [(.int (0 : Int32))])
      refine own_go (fun _ => XS.istore X31.here hx rfl (hb hby d3_163) rfl rfl) ?_
      show own_WP p e below _ T31 (mkF m 165 #[.val (.ref o0), .val (.int x1), .val (.int x2), .val (.ref o3), .val (.ref o4), .val (.ref o5), .val (.ref o6), .val (.int x7), .val (.ref b157), .val (.int (0 : Int32)), .unset, .unset] [])
      exact b3_165 hw C Z0 rr hP 5 X31 (rfl : T31.heap = T31.heap) N K o_o3_o4 o_o4_o5 o_o5_o0 o_o0_o6 o_o6_b28 o_b28_b35 o_b35_b43 o_b43_b51 o_b51_b59 o_b59_b67 o_b67_b157 g_o3 z_b28 V_o3 V_o4 V_o5 E_o0 Fo0_8 Fo0_a Fo0_b Fo0_c Fo0_d Fo0_e Fo0_f Fo0_10 Fo0_11 Fo0_12 Fo0_13 Fo0_14 Fo0_15 Fo0_16 Fo0_17 Fo0_18 Fo0_19 Fo0_1a Fo0_1b V_o6 V_b28 V_b35 V_b43 V_b51 V_b59 V_b67 V_b157 x1 x2 x7 (0 : Int32) (.unset) One.u (.unset) One.u hv
def f3_75 : Nat → (List Int32) → (List Int32) → (List Int32) → Int64 → (List Int64) → Int32 → (List Int32) → (List Int32) → (List Int32) → (List Int32) → (List Int32) → (List Int64) → Int32 → Int32 → Int32 → Option (Int32 × (List Int32) × (List Int32) × (List Int32) × (List Int32) × (List Int32) × (List Int32) × (List Int32) × (List Int32) × (List Int32))
  | 0 => fun _ _ _ _ _ _ _ _ _ _ _ _ _ _ _ => none
  | k + 1 => fun ta he ca s_scale co c_o0_nodes v_b28 v_b35 v_b43 v_b51 v_b59 v_b67 x1 x2 x8 => (if x8 < x2 then ((own_get ta x8).bind fun w18 => ((own_get v_b28 (w18 + (1 : Int32))).bind fun w19 => ((own_set v_b28 (w18 + (1 : Int32)) (w19 + (1 : Int32))).bind fun u20 => ((own_get he x8).bind fun w22 => ((own_get u20 (w22 + (1 : Int32))).bind fun w23 => ((own_set u20 (w22 + (1 : Int32)) (w23 + (1 : Int32))).bind fun u24 => (f3_75 k ta he ca s_scale co c_o0_nodes u24 v_b35 v_b43 v_b51 v_b59 v_b67 x1 x2 (x8 + (1 : Int32))))))))) else (f3_121 4 ta he ca s_scale co c_o0_nodes v_b28 v_b35 v_b43 v_b51 v_b59 v_b67 x1 x2 (0 : Int32)))
set_option maxRecDepth 65536 in
set_option maxHeartbeats 40000000 in
theorem b3_75 {p : Program} {l : Launch} {e : Env} {s : State} {m : MethodId} {args : Array Value} {below : List Frame} {meth : Method} {c : Code} {Z : State} {a0 : Array Value} {h0 : Heap} {n0 : Nat} {P : Option Value → Heap → List Loc → Prop} (hw : ∀ d ∈ tables_1, d.before a0 Z = true) (C : own_Ctx p s m meth c Z (⟨"com/example/gridfare/gridfare/engine/ResidualNetwork", "<init>", "(II[I[I[I[J)V"⟩ : MethodName) prog_42_method_1_code 12 none) (Z0 : n0 ≤ h0.size) {o3 : Nat} {o4 : Nat} {o5 : Nat} {o0 : Nat} {o6 : Nat} {ta : List Int32} {he : List Int32} {ca : List Int32} {s_scale : Int64} {co : List Int64} (rr : Int32 × (List Int32) × (List Int32) × (List Int32) × (List Int32) × (List Int32) × (List Int32) × (List Int32) × (List Int32) × (List Int32)) (hP : ∀ v h L, Fr n0 L → Keep h0 h [o0] → E3 Z h0 o3 o4 o5 o0 o6 ta he ca s_scale co rr v h → P v h L) (k : Nat) : ∀ {T : State} {locs : List Loc} {h : Heap} {b28 : Nat} {b35 : Nat} {b43 : Nat} {b51 : Nat} {b59 : Nat} {b67 : Nat} {c_o0_nodes : Int32} {v_b28 : List Int32} {v_b35 : List Int32} {v_b43 : List Int32} {v_b51 : List Int32} {v_b59 : List Int32} {v_b67 : List Int64} (X : Stand p l e rmR3 s m args below meth c T locs 6 40) (e0 : T.heap = h) (N : Fr n0 locs) (K : Keep h0 h [o0]) (o_o3_o4 : o3 < o4) (o_o4_o5 : o4 < o5) (o_o5_o0 : o5 < o0) (o_o0_o6 : o0 < o6) (o_o6_b28 : o6 < b28) (o_b28_b35 : b28 < b35) (o_b35_b43 : b35 < b43) (o_b43_b51 : b43 < b51) (o_b51_b59 : b51 < b59) (o_b59_b67 : b59 < b67) (g_o3 : n0 ≤ o3) (z_b28 : h0.size ≤ b28) (V_o3 : own_AI Z h o3 .int ta) (V_o4 : own_AI Z h o4 .int he) (V_o5 : own_AI Z h o5 .int ca) (E_o0 : Exa Z h o0 "com/example/gridfare/gridfare/engine/ResidualNetwork") (Fo0_8 : Fld Z h o0 "com/example/gridfare/gridfare/engine/ResidualNetwork" "nodes" "I" (.int c_o0_nodes)) (Fo0_a : Fld Z h o0 "com/example/gridfare/gridfare/engine/ResidualNetwork" "firstArc" "[I" (.ref b28)) (Fo0_b : Fld Z h o0 "com/example/gridfare/gridfare/engine/ResidualNetwork" "added" "[I" (.ref b35)) (Fo0_c : Fld Z h o0 "com/example/gridfare/gridfare/engine/ResidualNetwork" "head" "[I" (.ref b43)) (Fo0_d : Fld Z h o0 "com/example/gridfare/gridfare/engine/ResidualNetwork" "twin" "[I" (.ref b51)) (Fo0_e : Fld Z h o0 "com/example/gridfare/gridfare/engine/ResidualNetwork" "residual" "[I" (.ref b59)) (Fo0_f : Fld Z h o0 "com/example/gridfare/gridfare/engine/ResidualNetwork" "cost" "[J" (.ref b67)) (Fo0_10 : Fld Z h o0 "com/example/gridfare/gridfare/engine/ResidualNetwork" "level" "[I" .null) (Fo0_11 : Fld Z h o0 "com/example/gridfare/gridfare/engine/ResidualNetwork" "levelled" "[I" .null) (Fo0_12 : Fld Z h o0 "com/example/gridfare/gridfare/engine/ResidualNetwork" "arcInto" "[I" .null) (Fo0_13 : Fld Z h o0 "com/example/gridfare/gridfare/engine/ResidualNetwork" "price" "[J" .null) (Fo0_14 : Fld Z h o0 "com/example/gridfare/gridfare/engine/ResidualNetwork" "excess" "[J" .null) (Fo0_15 : Fld Z h o0 "com/example/gridfare/gridfare/engine/ResidualNetwork" "active" "[I" .null) (Fo0_16 : Fld Z h o0 "com/example/gridfare/gridfare/engine/ResidualNetwork" "queued" "[Z" .null) (Fo0_17 : Fld Z h o0 "com/example/gridfare/gridfare/engine/ResidualNetwork" "nearestDeficit" "Lcom/example/gridfare/gridfare/engine/BucketQueue;" .null) (Fo0_18 : Fld Z h o0 "com/example/gridfare/gridfare/engine/ResidualNetwork" "settled" "[Z" .null) (Fo0_19 : Fld Z h o0 "com/example/gridfare/gridfare/engine/ResidualNetwork" "potential" "[J" .null) (Fo0_1a : Fld Z h o0 "com/example/gridfare/gridfare/engine/ResidualNetwork" "lowering" "Lcom/example/gridfare/gridfare/engine/LoweringTree;" .null) (Fo0_1b : Fld Z h o0 "com/example/gridfare/gridfare/engine/ResidualNetwork" "currentArc" "[I" .null) (V_o6 : own_AJ Z h o6 .long co) (V_b28 : own_AI Z h b28 .int v_b28) (V_b35 : own_AI Z h b35 .int v_b35) (V_b43 : own_AI Z h b43 .int v_b43) (V_b51 : own_AI Z h b51 .int v_b51) (V_b59 : own_AI Z h b59 .int v_b59) (V_b67 : own_AJ Z h b67 .long v_b67) (x1 : Int32) (x2 : Int32) (x7 : Int32) (x8 : Int32) (hv : f3_75 k ta he ca s_scale co c_o0_nodes v_b28 v_b35 v_b43 v_b51 v_b59 v_b67 x1 x2 x8 = some rr),
    own_WP p e below (own_Q s P rmR3.cells rmR3.slots) T (mkF m 75 #[.val (.ref o0), .val (.int x1), .val (.int x2), .val (.ref o3), .val (.ref o4), .val (.ref o5), .val (.ref o6), .val (.int x7), .val (.int x8), .unset, .unset, .unset] []) := by
  obtain ⟨hx, hZ, hby, hml, hown, hnm, hret, hlk⟩ := id C
  replace hown : s.vm.findClass "com/example/gridfare/gridfare/engine/ResidualNetwork" = some m.cls := hown
  induction k with
  | zero => intros; rename_i hv; cases hv
  | succ k ih =>
    intro T locs h b28 b35 b43 b51 b59 b67 c_o0_nodes v_b28 v_b35 v_b43 v_b51 v_b59 v_b67 X e0 N K o_o3_o4 o_o4_o5 o_o5_o0 o_o0_o6 o_o6_b28 o_b28_b35 o_b35_b43 o_b43_b51 o_b51_b59 o_b59_b67 g_o3 z_b28 V_o3 V_o4 V_o5 E_o0 Fo0_8 Fo0_a Fo0_b Fo0_c Fo0_d Fo0_e Fo0_f Fo0_10 Fo0_11 Fo0_12 Fo0_13 Fo0_14 Fo0_15 Fo0_16 Fo0_17 Fo0_18 Fo0_19 Fo0_1a Fo0_1b V_o6 V_b28 V_b35 V_b43 V_b51 V_b59 V_b67 x1 x2 x7 x8 hv
    unfold f3_75 at hv
    show own_WP p e below _ T (mkF m 75 #[.val (.ref o0), .val (.int x1), .val (.int x2), .val (.ref o3), .val (.ref o4), .val (.ref o5), .val (.ref o6), .val (.int x7), .val (.int x8), .unset, .unset, .unset] [])
    refine own_go (fun _ => XS.iload X.here hx rfl (hb hby d3_75) rfl) ?_
    show own_WP p e below _ T (mkF m 77 _ [(.int x8)])
    refine own_go (fun _ => XS.iloadN X.here hx rfl (hb hby d3_77) rfl) ?_
    show own_WP p e below _ T (mkF m 78 _ [(.int x2), (.int x8)])
    by_cases h78 : x8 < x2
    · replace hv := (if_pos h78).symm.trans hv
      refine own_go (fun _ => XS.icmpNo X.here hx rfl (hb hby d3_78) rfl (XT.ii_ge_f h78)) ?_
      show own_WP p e below _ T (mkF m 81 #[.val (.ref o0), .val (.int x1), .val (.int x2), .val (.ref o3), .val (.ref o4), .val (.ref o5), .val (.ref o6), .val (.int x7), .val (.int x8), .unset, .unset, .unset] [])
      refine own_go (fun _ => XS.aloadN X.here hx rfl (hb hby d3_81) rfl rfl) ?_
      show own_WP p e below _ T (mkF m 82 _ [(.ref o0)])
      obtain ⟨T17, X17, e17, st17⟩ := getF X hx hZ hown (host := "") (Or.inl (hw _ (List.mem_of_getElem? (i := 28) rfl))) Via.refl e0 Fo0_a (g := (mkF m 82 #[.val (.ref o0), .val (.int x1), .val (.int x2), .val (.ref o3), .val (.ref o4), .val (.ref o5), .val (.ref o6), .val (.int x7), .val (.int x8), .unset, .unset, .unset] [(.ref o0)])) rfl rfl (hb hby d3_82)
      refine own_go st17 ?_
      clear st17 X e0
      show own_WP p e below _ T17 (mkF m 85 _ [(.ref b28)])
      refine own_go (fun _ => XS.aloadN X17.here hx rfl (hb hby d3_85) rfl rfl) ?_
      show own_WP p e below _ T17 (mkF m 86 _ [(.ref o3), (.ref b28)])
      refine own_go (fun _ => XS.iload X17.here hx rfl (hb hby d3_86) rfl) ?_
      show own_WP p e below _ T17 (mkF m 88 _ [(.int x8), (.ref o3), (.ref b28)])
      obtain ⟨w18, hg18, hv⟩ := own_bind hv
      refine own_go (own_iaload X17 C e17 V_o3 hg18 (hb hby d3_88)) ?_
      show own_WP p e below _ T17 (mkF m 89 _ [(.int w18), (.ref b28)])
      refine own_go (fun _ => XS.iconst X17.here hx rfl (hb hby d3_89)) ?_
      show own_WP p e below _ T17 (mkF m 90 _ [(.int (1 : Int32)), (.int w18), (.ref b28)])
      refine own_go (fun _ => XS.iadd X17.here hx rfl (hb hby d3_90) rfl) ?_
      show own_WP p e below _ T17 (mkF m 91 _ [(.int (w18 + (1 : Int32))), (.ref b28)])
      refine own_go (fun _ => XT.dup2 X17.here hx rfl (hb hby d3_91) rfl rfl rfl) ?_
      show own_WP p e below _ T17 (mkF m 92 #[.val (.ref o0), .val (.int x1), .val (.int x2), .val (.ref o3), .val (.ref o4), .val (.ref o5), .val (.ref o6), .val (.int x7), .val (.int x8), .unset, .unset, .unset] [(.int (w18 + (1 : Int32))), (.ref b28), (.int (w18 + (1 : Int32))), (.ref b28)])
      obtain ⟨w19, hg19, hv⟩ := own_bind hv
      refine own_go (own_iaload X17 C e17 V_b28 hg19 (hb hby d3_92)) ?_
      show own_WP p e below _ T17 (mkF m 93 _ [(.int w19), (.int (w18 + (1 : Int32))), (.ref b28)])
      refine own_go (fun _ => XS.iconst X17.here hx rfl (hb hby d3_93)) ?_
      show own_WP p e below _ T17 (mkF m 94 _ [(.int (1 : Int32)), (.int w19), (.int (w18 + (1 : Int32))), (.ref b28)])
      refine own_go (fun _ => XS.iadd X17.here hx rfl (hb hby d3_94) rfl) ?_
      show own_WP p e below _ T17 (mkF m 95 _ [(.int (w19 + (1 : Int32))), (.int (w18 + (1 : Int32))), (.ref b28)])
      obtain ⟨u20, hg20, hv⟩ := own_bind hv
      obtain ⟨T20, h20, X20, e20, W20, V'20, st20⟩ := own_iastore X17 C e17 V_b28 (j := (w18 + (1 : Int32))) (x := (w19 + (1 : Int32))) hg20 (hb hby d3_95)
      refine own_go st20 ?_
      replace V_o3 := V_o3.other W20 (own_ne (by omega))
      replace V_o4 := V_o4.other W20 (own_ne (by omega))
      replace V_o5 := V_o5.other W20 (own_ne (by omega))
      replace E_o0 := E_o0.wr W20
      have nq : @Ne Addr o0 b28 := own_ne (by omega)
      replace Fo0_8 := Fo0_8.other W20 (Or.inl nq)
      replace Fo0_a := Fo0_a.other W20 (Or.inl nq)
      replace Fo0_b := Fo0_b.other W20 (Or.inl nq)
      replace Fo0_c := Fo0_c.other W20 (Or.inl nq)
      replace Fo0_d := Fo0_d.other W20 (Or.inl nq)
      replace Fo0_e := Fo0_e.other W20 (Or.inl nq)
      replace Fo0_f := Fo0_f.other W20 (Or.inl nq)
      replace Fo0_10 := Fo0_10.other W20 (Or.inl nq)
      replace Fo0_11 := Fo0_11.other W20 (Or.inl nq)
      replace Fo0_12 := Fo0_12.other W20 (Or.inl nq)
      replace Fo0_13 := Fo0_13.other W20 (Or.inl nq)
      replace Fo0_14 := Fo0_14.other W20 (Or.inl nq)
      replace Fo0_15 := Fo0_15.other W20 (Or.inl nq)
      replace Fo0_16 := Fo0_16.other W20 (Or.inl nq)
      replace Fo0_17 := Fo0_17.other W20 (Or.inl nq)
      replace Fo0_18 := Fo0_18.other W20 (Or.inl nq)
      replace Fo0_19 := Fo0_19.other W20 (Or.inl nq)
      replace Fo0_1a := Fo0_1a.other W20 (Or.inl nq)
      replace Fo0_1b := Fo0_1b.other W20 (Or.inl nq)
      clear nq
      replace V_o6 := V_o6.other W20 (own_ne (by omega))
      replace V_b35 := V_b35.other W20 (own_ne (by omega))
      replace V_b43 := V_b43.other W20 (own_ne (by omega))
      replace V_b51 := V_b51.other W20 (own_ne (by omega))
      replace V_b59 := V_b59.other W20 (own_ne (by omega))
      replace V_b67 := V_b67.other W20 (own_ne (by omega))
      replace V_b28 := V'20
      clear V'20
      replace K := K.wr W20 (Or.inr (by omega))
      replace N := Fr.snoc X20 N (by omega)
      clear st20 W20 hg20 X17 e17
      show own_WP p e below _ T20 (mkF m 96 _ [])
      refine own_go (fun _ => XS.aloadN X20.here hx rfl (hb hby d3_96) rfl rfl) ?_
      show own_WP p e below _ T20 (mkF m 97 _ [(.ref o0)])
      obtain ⟨T21, X21, e21, st21⟩ := getF X20 hx hZ hown (host := "") (Or.inl (hw _ (List.mem_of_getElem? (i := 28) rfl))) Via.refl e20 Fo0_a (g := (mkF m 97 #[.val (.ref o0), .val (.int x1), .val (.int x2), .val (.ref o3), .val (.ref o4), .val (.ref o5), .val (.ref o6), .val (.int x7), .val (.int x8), .unset, .unset, .unset] [(.ref o0)])) rfl rfl (hb hby d3_97)
      refine own_go st21 ?_
      clear st21 X20 e20
      show own_WP p e below _ T21 (mkF m 100 _ [(.ref b28)])
      refine own_go (fun _ => XS.aload X21.here hx rfl (hb hby d3_100) rfl rfl) ?_
      show own_WP p e below _ T21 (mkF m 102 _ [(.ref o4), (.ref b28)])
      refine own_go (fun _ => XS.iload X21.here hx rfl (hb hby d3_102) rfl) ?_
      show own_WP p e below _ T21 (mkF m 104 #[.val (.ref o0), .val (.int x1), .val (.int x2), .val (.ref o3), .val (.ref o4), .val (.ref o5), .val (.ref o6), .val (.int x7), .val (.int x8), .unset, .unset, .unset] [(.int x8), (.ref o4), (.ref b28)])
      obtain ⟨w22, hg22, hv⟩ := own_bind hv
      refine own_go (own_iaload X21 C e21 V_o4 hg22 (hb hby d3_104)) ?_
      show own_WP p e below _ T21 (mkF m 105 _ [(.int w22), (.ref b28)])
      refine own_go (fun _ => XS.iconst X21.here hx rfl (hb hby d3_105)) ?_
      show own_WP p e below _ T21 (mkF m 106 _ [(.int (1 : Int32)), (.int w22), (.ref b28)])
      refine own_go (fun _ => XS.iadd X21.here hx rfl (hb hby d3_106) rfl) ?_
      show own_WP p e below _ T21 (mkF m 107 _ [(.int (w22 + (1 : Int32))), (.ref b28)])
      refine own_go (fun _ => XT.dup2 X21.here hx rfl (hb hby d3_107) rfl rfl rfl) ?_
      show own_WP p e below _ T21 (mkF m 108 _ [(.int (w22 + (1 : Int32))), (.ref b28), (.int (w22 + (1 : Int32))), (.ref b28)])
      obtain ⟨w23, hg23, hv⟩ := own_bind hv
      refine own_go (own_iaload X21 C e21 V_b28 hg23 (hb hby d3_108)) ?_
      show own_WP p e below _ T21 (mkF m 109 _ [(.int w23), (.int (w22 + (1 : Int32))), (.ref b28)])
      refine own_go (fun _ => XS.iconst X21.here hx rfl (hb hby d3_109)) ?_
      show own_WP p e below _ T21 (mkF m 110 _ [(.int (1 : Int32)), (.int w23), (.int (w22 + (1 : Int32))), (.ref b28)])
      refine own_go (fun _ => XS.iadd X21.here hx rfl (hb hby d3_110) rfl) ?_
      show own_WP p e below _ T21 (mkF m 111 _ [(.int (w23 + (1 : Int32))), (.int (w22 + (1 : Int32))), (.ref b28)])
      obtain ⟨u24, hg24, hv⟩ := own_bind hv
      obtain ⟨T24, h24, X24, e24, W24, V'24, st24⟩ := own_iastore X21 C e21 V_b28 (j := (w22 + (1 : Int32))) (x := (w23 + (1 : Int32))) hg24 (hb hby d3_111)
      refine own_go st24 ?_
      replace V_o3 := V_o3.other W24 (own_ne (by omega))
      replace V_o4 := V_o4.other W24 (own_ne (by omega))
      replace V_o5 := V_o5.other W24 (own_ne (by omega))
      replace E_o0 := E_o0.wr W24
      have nq : @Ne Addr o0 b28 := own_ne (by omega)
      replace Fo0_8 := Fo0_8.other W24 (Or.inl nq)
      replace Fo0_a := Fo0_a.other W24 (Or.inl nq)
      replace Fo0_b := Fo0_b.other W24 (Or.inl nq)
      replace Fo0_c := Fo0_c.other W24 (Or.inl nq)
      replace Fo0_d := Fo0_d.other W24 (Or.inl nq)
      replace Fo0_e := Fo0_e.other W24 (Or.inl nq)
      replace Fo0_f := Fo0_f.other W24 (Or.inl nq)
      replace Fo0_10 := Fo0_10.other W24 (Or.inl nq)
      replace Fo0_11 := Fo0_11.other W24 (Or.inl nq)
      replace Fo0_12 := Fo0_12.other W24 (Or.inl nq)
      replace Fo0_13 := Fo0_13.other W24 (Or.inl nq)
      replace Fo0_14 := Fo0_14.other W24 (Or.inl nq)
      replace Fo0_15 := Fo0_15.other W24 (Or.inl nq)
      replace Fo0_16 := Fo0_16.other W24 (Or.inl nq)
      replace Fo0_17 := Fo0_17.other W24 (Or.inl nq)
      replace Fo0_18 := Fo0_18.other W24 (Or.inl nq)
      replace Fo0_19 := Fo0_19.other W24 (Or.inl nq)
      replace Fo0_1a := Fo0_1a.other W24 (Or.inl nq)
      replace Fo0_1b := Fo0_1b.other W24 (Or.inl nq)
      clear nq
      replace V_o6 := V_o6.other W24 (own_ne (by omega))
      replace V_b35 := V_b35.other W24 (own_ne (by omega))
      replace V_b43 := V_b43.other W24 (own_ne (by omega))
      replace V_b51 := V_b51.other W24 (own_ne (by omega))
      replace V_b59 := V_b59.other W24 (own_ne (by omega))
      replace V_b67 := V_b67.other W24 (own_ne (by omega))
      replace V_b28 := V'24
      clear V'24
      replace K := K.wr W24 (Or.inr (by omega))
      replace N := Fr.snoc X24 N (by omega)
      clear st24 W24 hg24 X21 e21
      show own_WP p e below _ T24 (mkF m 112 #[.val (.ref o0), .val (.int x1), .val (.int x2), .val (.ref o3), .val (.ref o4), .val (.ref o5), .val (.ref o6), .val (.int x7), .val (.int x8), .unset, .unset, .unset] [])
      refine own_go (fun _ => XS.iinc X24.here hx rfl (hb hby d3_112) rfl rfl) ?_
      show own_WP p e below _ T24 (mkF m 115 #[.val (.ref o0), .val (.int x1), .val (.int x2), .val (.ref o3), .val (.ref o4), .val (.ref o5), .val (.ref o6), .val (.int x7), .val (.int (x8 + (1 : Int32))), .unset, .unset, .unset] [])
      refine own_go (fun _ => XS.goto X24.here hx rfl (pc0 := 115) (pc' := 75) rfl (hb hby d3_115) (by decide) (by decide)) ?_
      exact ih X24 e24 N K o_o3_o4 o_o4_o5 o_o5_o0 o_o0_o6 o_o6_b28 o_b28_b35 o_b35_b43 o_b43_b51 o_b51_b59 o_b59_b67 g_o3 z_b28 V_o3 V_o4 V_o5 E_o0 Fo0_8 Fo0_a Fo0_b Fo0_c Fo0_d Fo0_e Fo0_f Fo0_10 Fo0_11 Fo0_12 Fo0_13 Fo0_14 Fo0_15 Fo0_16 Fo0_17 Fo0_18 Fo0_19 Fo0_1a Fo0_1b V_o6 V_b28 V_b35 V_b43 V_b51 V_b59 V_b67 x1 x2 x7 (x8 + (1 : Int32)) hv
    · replace hv := (if_neg h78).symm.trans hv
      refine own_go (fun _ => XS.icmpYes X.here hx rfl (pc0 := 78) (pc' := 118) rfl (hb hby d3_78) rfl (XT.ii_ge_t h78) (by decide) (by decide)) ?_
      show own_WP p e below _ T (mkF m 118 #[.val (.ref o0), .val (.int x1), .val (.int x2), .val (.ref o3), .val (.ref o4), .val (.ref o5), .val (.ref o6), .val (.int x7), .val (.int x8), .unset, .unset, .unset] [])
      refine own_go (fun _ => XS.iconst X.here hx rfl (hb hby d3_118)) ?_
      show own_WP p e below _ T (mkF m 119 #[.val (.ref o0), .val (.int x1), .val (.int x2), .val (.ref o3), .val (.ref o4), .val (.ref o5), .val (.ref o6), .val (.int x7), .val (.int x8), .unset, .unset, .unset] [(.int (0 : Int32))])
      refine own_go (fun _ => XS.istore X.here hx rfl (hb hby d3_119) rfl rfl) ?_
      show own_WP p e below _ T (mkF m 121 #[.val (.ref o0), .val (.int x1), .val (.int x2), .val (.ref o3), .val (.ref o4), .val (.ref o5), .val (.ref o6), .val (.int x7), .val (.int (0 : Int32)), .unset, .unset, .unset] [])
      exact b3_121 hw C Z0 rr hP 4 X e0 N K o_o3_o4 o_o4_o5 o_o5_o0 o_o0_o6 o_o6_b28 o_b28_b35 o_b35_b43 o_b43_b51 o_b51_b59 o_b59_b67 g_o3 z_b28 V_o3 V_o4 V_o5 E_o0 Fo0_8 Fo0_a Fo0_b Fo0_c Fo0_d Fo0_e Fo0_f Fo0_10 Fo0_11 Fo0_12 Fo0_13 Fo0_14 Fo0_15 Fo0_16 Fo0_17 Fo0_18 Fo0_19 Fo0_1a Fo0_1b V_o6 V_b28 V_b35 V_b43 V_b51 V_b59 V_b67 x1 x2 x7 (0 : Int32) hv
def f3_48 (ta : List Int32) (he : List Int32) (ca : List Int32) (s_scale : Int64) (co : List Int64) (c_o0_nodes : Int32) (v_b28 : List Int32) (v_b35 : List Int32) (v_b43 : List Int32) (x1 : Int32) (x2 : Int32) (x7 : Int32) : Option (Int32 × (List Int32) × (List Int32) × (List Int32) × (List Int32) × (List Int32) × (List Int32) × (List Int32) × (List Int32) × (List Int32)) := (if x7 < 0 ∨ 8 < x7.toInt then none else (if x7 < 0 ∨ 8 < x7.toInt then none else (if x7 < 0 ∨ 8 < x7.toInt then none else (f3_75 5 ta he ca s_scale co c_o0_nodes v_b28 v_b35 v_b43 (List.replicate (x7).toNatClampNeg 0) (List.replicate (x7).toNatClampNeg 0) (List.replicate (x7).toNatClampNeg 0) x1 x2 (0 : Int32)))))
set_option maxRecDepth 65536 in
set_option maxHeartbeats 40000000 in
theorem b3_48 {p : Program} {l : Launch} {e : Env} {s : State} {m : MethodId} {args : Array Value} {below : List Frame} {meth : Method} {c : Code} {Z : State} {a0 : Array Value} {h0 : Heap} {n0 : Nat} {P : Option Value → Heap → List Loc → Prop} (hw : ∀ d ∈ tables_1, d.before a0 Z = true) (C : own_Ctx p s m meth c Z (⟨"com/example/gridfare/gridfare/engine/ResidualNetwork", "<init>", "(II[I[I[I[J)V"⟩ : MethodName) prog_42_method_1_code 12 none) (Z0 : n0 ≤ h0.size) {o3 : Nat} {o4 : Nat} {o5 : Nat} {o0 : Nat} {o6 : Nat} {ta : List Int32} {he : List Int32} {ca : List Int32} {s_scale : Int64} {co : List Int64} (rr : Int32 × (List Int32) × (List Int32) × (List Int32) × (List Int32) × (List Int32) × (List Int32) × (List Int32) × (List Int32) × (List Int32)) (hP : ∀ v h L, Fr n0 L → Keep h0 h [o0] → E3 Z h0 o3 o4 o5 o0 o6 ta he ca s_scale co rr v h → P v h L)
    {T : State} {locs : List Loc} {h : Heap} {b28 : Nat} {b35 : Nat} {b43 : Nat} {c_o0_nodes : Int32} {v_b28 : List Int32} {v_b35 : List Int32} {v_b43 : List Int32} (X : Stand p l e rmR3 s m args below meth c T locs 3 16) (e0 : T.heap = h) (N : Fr n0 locs) (K : Keep h0 h [o0]) (o_o3_o4 : o3 < o4) (o_o4_o5 : o4 < o5) (o_o5_o0 : o5 < o0) (o_o0_o6 : o0 < o6) (o_o6_b28 : o6 < b28) (o_b28_b35 : b28 < b35) (o_b35_b43 : b35 < b43) (g_o3 : n0 ≤ o3) (z_b28 : h0.size ≤ b28) (V_o3 : own_AI Z h o3 .int ta) (V_o4 : own_AI Z h o4 .int he) (V_o5 : own_AI Z h o5 .int ca) (E_o0 : Exa Z h o0 "com/example/gridfare/gridfare/engine/ResidualNetwork") (Fo0_8 : Fld Z h o0 "com/example/gridfare/gridfare/engine/ResidualNetwork" "nodes" "I" (.int c_o0_nodes)) (Fo0_a : Fld Z h o0 "com/example/gridfare/gridfare/engine/ResidualNetwork" "firstArc" "[I" (.ref b28)) (Fo0_b : Fld Z h o0 "com/example/gridfare/gridfare/engine/ResidualNetwork" "added" "[I" (.ref b35)) (Fo0_c : Fld Z h o0 "com/example/gridfare/gridfare/engine/ResidualNetwork" "head" "[I" (.ref b43)) (Fo0_d : Fld Z h o0 "com/example/gridfare/gridfare/engine/ResidualNetwork" "twin" "[I" .null) (Fo0_e : Fld Z h o0 "com/example/gridfare/gridfare/engine/ResidualNetwork" "residual" "[I" .null) (Fo0_f : Fld Z h o0 "com/example/gridfare/gridfare/engine/ResidualNetwork" "cost" "[J" .null) (Fo0_10 : Fld Z h o0 "com/example/gridfare/gridfare/engine/ResidualNetwork" "level" "[I" .null) (Fo0_11 : Fld Z h o0 "com/example/gridfare/gridfare/engine/ResidualNetwork" "levelled" "[I" .null) (Fo0_12 : Fld Z h o0 "com/example/gridfare/gridfare/engine/ResidualNetwork" "arcInto" "[I" .null) (Fo0_13 : Fld Z h o0 "com/example/gridfare/gridfare/engine/ResidualNetwork" "price" "[J" .null) (Fo0_14 : Fld Z h o0 "com/example/gridfare/gridfare/engine/ResidualNetwork" "excess" "[J" .null) (Fo0_15 : Fld Z h o0 "com/example/gridfare/gridfare/engine/ResidualNetwork" "active" "[I" .null) (Fo0_16 : Fld Z h o0 "com/example/gridfare/gridfare/engine/ResidualNetwork" "queued" "[Z" .null) (Fo0_17 : Fld Z h o0 "com/example/gridfare/gridfare/engine/ResidualNetwork" "nearestDeficit" "Lcom/example/gridfare/gridfare/engine/BucketQueue;" .null) (Fo0_18 : Fld Z h o0 "com/example/gridfare/gridfare/engine/ResidualNetwork" "settled" "[Z" .null) (Fo0_19 : Fld Z h o0 "com/example/gridfare/gridfare/engine/ResidualNetwork" "potential" "[J" .null) (Fo0_1a : Fld Z h o0 "com/example/gridfare/gridfare/engine/ResidualNetwork" "lowering" "Lcom/example/gridfare/gridfare/engine/LoweringTree;" .null) (Fo0_1b : Fld Z h o0 "com/example/gridfare/gridfare/engine/ResidualNetwork" "currentArc" "[I" .null) (V_o6 : own_AJ Z h o6 .long co) (V_b28 : own_AI Z h b28 .int v_b28) (V_b35 : own_AI Z h b35 .int v_b35) (V_b43 : own_AI Z h b43 .int v_b43) (x1 : Int32) (x2 : Int32) (x7 : Int32) (hv : f3_48 ta he ca s_scale co c_o0_nodes v_b28 v_b35 v_b43 x1 x2 x7 = some rr) :
    own_WP p e below (own_Q s P rmR3.cells rmR3.slots) T (mkF m 48 #[.val (.ref o0), .val (.int x1), .val (.int x2), .val (.ref o3), .val (.ref o4), .val (.ref o5), .val (.ref o6), .val (.int x7), .unset, .unset, .unset, .unset] []) := by
  obtain ⟨hx, hZ, hby, hml, hown, hnm, hret, hlk⟩ := id C
  replace hown : s.vm.findClass "com/example/gridfare/gridfare/engine/ResidualNetwork" = some m.cls := hown
  unfold f3_48 at hv
  show own_WP p e below _ T (mkF m 48 #[.val (.ref o0), .val (.int x1), .val (.int x2), .val (.ref o3), .val (.ref o4), .val (.ref o5), .val (.ref o6), .val (.int x7), .unset, .unset, .unset, .unset] [])
  refine own_go (fun _ => XS.aloadN X.here hx rfl (hb hby d3_48) rfl rfl) ?_
  show own_WP p e below _ T (mkF m 49 _ [(.ref o0)])
  refine own_go (fun _ => XS.iload X.here hx rfl (hb hby d3_49) rfl) ?_
  show own_WP p e below _ T (mkF m 51 #[.val (.ref o0), .val (.int x1), .val (.int x2), .val (.ref o3), .val (.ref o4), .val (.ref o5), .val (.ref o6), .val (.int x7), .unset, .unset, .unset, .unset] [(.int x7), (.ref o0)])
  by_cases h51 : x7 < 0 ∨ 8 < x7.toInt
  · cases ((if_pos h51).symm.trans hv)
  replace hv := (if_neg h51).symm.trans hv
  obtain ⟨T11, h11, b51, X11, e11, E11, hb_b51, V_b51, st11⟩ := own_newI X C e0 (aty := .int) (ty := .int) rfl rfl rfl (hw _ (List.mem_of_getElem? (i := 2) rfl)) (n := x7) (fun q => h51 (Or.inl q)) (cap := 8) (own_cap (k := 8) rfl (fun q => h51 (Or.inr q))) (by decide) (by decide) (by decide) (pc := 51) (Ls := #[.val (.ref o0), .val (.int x1), .val (.int x2), .val (.ref o3), .val (.ref o4), .val (.ref o5), .val (.ref o6), .val (.int x7), .unset, .unset, .unset, .unset]) (rest := [(.ref o0)]) (hb hby d3_51)
  refine own_go st11 ?_
  have o_b43_b51 : b43 < b51 := by have q : b43 < h.size := V_b43.lt; omega
  replace V_o3 := V_o3.ext E11
  replace V_o4 := V_o4.ext E11
  replace V_o5 := V_o5.ext E11
  replace E_o0 := E_o0.ext E11
  replace Fo0_8 := Fo0_8.ext E11
  replace Fo0_a := Fo0_a.ext E11
  replace Fo0_b := Fo0_b.ext E11
  replace Fo0_c := Fo0_c.ext E11
  replace Fo0_d := Fo0_d.ext E11
  replace Fo0_e := Fo0_e.ext E11
  replace Fo0_f := Fo0_f.ext E11
  replace Fo0_10 := Fo0_10.ext E11
  replace Fo0_11 := Fo0_11.ext E11
  replace Fo0_12 := Fo0_12.ext E11
  replace Fo0_13 := Fo0_13.ext E11
  replace Fo0_14 := Fo0_14.ext E11
  replace Fo0_15 := Fo0_15.ext E11
  replace Fo0_16 := Fo0_16.ext E11
  replace Fo0_17 := Fo0_17.ext E11
  replace Fo0_18 := Fo0_18.ext E11
  replace Fo0_19 := Fo0_19.ext E11
  replace Fo0_1a := Fo0_1a.ext E11
  replace Fo0_1b := Fo0_1b.ext E11
  replace V_o6 := V_o6.ext E11
  replace V_b28 := V_b28.ext E11
  replace V_b35 := V_b35.ext E11
  replace V_b43 := V_b43.ext E11
  replace K := K.ext E11
  clear st11 E11 hb_b51 X e0
  show own_WP p e below _ T11 (mkF m 53 #[.val (.ref o0), .val (.int x1), .val (.int x2), .val (.ref o3), .val (.ref o4), .val (.ref o5), .val (.ref o6), .val (.int x7), .unset, .unset, .unset, .unset] [(.ref b51), (.ref o0)])
  obtain ⟨T12, h12, X12, e12, W12, st12⟩ := putF X11 hx hZ hown (host := "") (Or.inl (hw _ (List.mem_of_getElem? (i := 34) rfl))) Via.refl e11 Fo0_d E_o0 (Or.inr ⟨(hw _ (List.mem_of_getElem? (i := 35) rfl)), rfl, hnm⟩) (hw _ (List.mem_of_getElem? (i := 11) rfl)) (ty := (.array .int)) (by decide) rfl rfl (g := (mkF m 53 #[.val (.ref o0), .val (.int x1), .val (.int x2), .val (.ref o3), .val (.ref o4), .val (.ref o5), .val (.ref o6), .val (.int x7), .unset, .unset, .unset, .unset] [(.ref b51), (.ref o0)])) rfl rfl (hb hby d3_53)
  refine own_go st12 ?_
  replace V_o3 := V_o3.other W12 (own_ne (by omega))
  replace V_o4 := V_o4.other W12 (own_ne (by omega))
  replace V_o5 := V_o5.other W12 (own_ne (by omega))
  replace E_o0 := E_o0.wr W12
  replace Fo0_8 := Fo0_8.other W12 (Or.inr (slot_ne (ly9 hw) (ly13 hw) (by decide) pf1 pf0))
  replace Fo0_a := Fo0_a.other W12 (Or.inr (slot_ne (ly10 hw) (ly13 hw) (by decide) pf0 pf0))
  replace Fo0_b := Fo0_b.other W12 (Or.inr (slot_ne (ly11 hw) (ly13 hw) (by decide) pf0 pf0))
  replace Fo0_c := Fo0_c.other W12 (Or.inr (slot_ne (ly12 hw) (ly13 hw) (by decide) pf0 pf0))
  replace Fo0_d := Fo0_d.same W12
  replace Fo0_e := Fo0_e.other W12 (Or.inr (slot_ne (ly14 hw) (ly13 hw) (by decide) pf0 pf0))
  replace Fo0_f := Fo0_f.other W12 (Or.inr (slot_ne (ly15 hw) (ly13 hw) (by decide) pf3 pf0))
  replace Fo0_10 := Fo0_10.other W12 (Or.inr (slot_ne (ly16 hw) (ly13 hw) (by decide) pf0 pf0))
  replace Fo0_11 := Fo0_11.other W12 (Or.inr (slot_ne (ly17 hw) (ly13 hw) (by decide) pf0 pf0))
  replace Fo0_12 := Fo0_12.other W12 (Or.inr (slot_ne (ly18 hw) (ly13 hw) (by decide) pf0 pf0))
  replace Fo0_13 := Fo0_13.other W12 (Or.inr (slot_ne (ly19 hw) (ly13 hw) (by decide) pf3 pf0))
  replace Fo0_14 := Fo0_14.other W12 (Or.inr (slot_ne (ly20 hw) (ly13 hw) (by decide) pf3 pf0))
  replace Fo0_15 := Fo0_15.other W12 (Or.inr (slot_ne (ly21 hw) (ly13 hw) (by decide) pf0 pf0))
  replace Fo0_16 := Fo0_16.other W12 (Or.inr (slot_ne (ly22 hw) (ly13 hw) (by decide) pf4 pf0))
  replace Fo0_17 := Fo0_17.other W12 (Or.inr (slot_ne (ly23 hw) (ly13 hw) (by decide) pf5 pf0))
  replace Fo0_18 := Fo0_18.other W12 (Or.inr (slot_ne (ly24 hw) (ly13 hw) (by decide) pf4 pf0))
  replace Fo0_19 := Fo0_19.other W12 (Or.inr (slot_ne (ly25 hw) (ly13 hw) (by decide) pf3 pf0))
  replace Fo0_1a := Fo0_1a.other W12 (Or.inr (slot_ne (ly26 hw) (ly13 hw) (by decide) pf6 pf0))
  replace Fo0_1b := Fo0_1b.other W12 (Or.inr (slot_ne (ly27 hw) (ly13 hw) (by decide) pf0 pf0))
  replace V_o6 := V_o6.other W12 (own_ne (by omega))
  replace V_b28 := V_b28.other W12 (own_ne (by omega))
  replace V_b35 := V_b35.other W12 (own_ne (by omega))
  replace V_b43 := V_b43.other W12 (own_ne (by omega))
  replace V_b51 := V_b51.other W12 (own_ne (by omega))
  replace K := K.wr W12 (Or.inl (List.mem_of_getElem? (i := 0) rfl))
  replace N := Fr.snoc X12 N (by omega)
  clear st12 W12 X11 e11
  show own_WP p e below _ T12 (mkF m 56 _ [])
  refine own_go (fun _ => XS.aloadN X12.here hx rfl (hb hby d3_56) rfl rfl) ?_
  show own_WP p e below _ T12 (mkF m 57 _ [(.ref o0)])
  refine own_go (fun _ => XS.iload X12.here hx rfl (hb hby d3_57) rfl) ?_
  show own_WP p e below _ T12 (mkF m 59 #[.val (.ref o0), .val (.int x1), .val (.int x2), .val (.ref o3), .val (.ref o4), .val (.ref o5), .val (.ref o6), .val (.int x7), .unset, .unset, .unset, .unset] [(.int x7), (.ref o0)])
  by_cases h59 : x7 < 0 ∨ 8 < x7.toInt
  · cases ((if_pos h59).symm.trans hv)
  replace hv := (if_neg h59).symm.trans hv
  obtain ⟨T13, h13, b59, X13, e13, E13, hb_b59, V_b59, st13⟩ := own_newI X12 C e12 (aty := .int) (ty := .int) rfl rfl rfl (hw _ (List.mem_of_getElem? (i := 2) rfl)) (n := x7) (fun q => h59 (Or.inl q)) (cap := 8) (own_cap (k := 8) rfl (fun q => h59 (Or.inr q))) (by decide) (by decide) (by decide) (pc := 59) (Ls := #[.val (.ref o0), .val (.int x1), .val (.int x2), .val (.ref o3), .val (.ref o4), .val (.ref o5), .val (.ref o6), .val (.int x7), .unset, .unset, .unset, .unset]) (rest := [(.ref o0)]) (hb hby d3_59)
  refine own_go st13 ?_
  have o_b51_b59 : b51 < b59 := by have q : b51 < h12.size := V_b51.lt; omega
  replace V_o3 := V_o3.ext E13
  replace V_o4 := V_o4.ext E13
  replace V_o5 := V_o5.ext E13
  replace E_o0 := E_o0.ext E13
  replace Fo0_8 := Fo0_8.ext E13
  replace Fo0_a := Fo0_a.ext E13
  replace Fo0_b := Fo0_b.ext E13
  replace Fo0_c := Fo0_c.ext E13
  replace Fo0_d := Fo0_d.ext E13
  replace Fo0_e := Fo0_e.ext E13
  replace Fo0_f := Fo0_f.ext E13
  replace Fo0_10 := Fo0_10.ext E13
  replace Fo0_11 := Fo0_11.ext E13
  replace Fo0_12 := Fo0_12.ext E13
  replace Fo0_13 := Fo0_13.ext E13
  replace Fo0_14 := Fo0_14.ext E13
  replace Fo0_15 := Fo0_15.ext E13
  replace Fo0_16 := Fo0_16.ext E13
  replace Fo0_17 := Fo0_17.ext E13
  replace Fo0_18 := Fo0_18.ext E13
  replace Fo0_19 := Fo0_19.ext E13
  replace Fo0_1a := Fo0_1a.ext E13
  replace Fo0_1b := Fo0_1b.ext E13
  replace V_o6 := V_o6.ext E13
  replace V_b28 := V_b28.ext E13
  replace V_b35 := V_b35.ext E13
  replace V_b43 := V_b43.ext E13
  replace V_b51 := V_b51.ext E13
  replace K := K.ext E13
  clear st13 E13 hb_b59 X12 e12
  show own_WP p e below _ T13 (mkF m 61 #[.val (.ref o0), .val (.int x1), .val (.int x2), .val (.ref o3), .val (.ref o4), .val (.ref o5), .val (.ref o6), .val (.int x7), .unset, .unset, .unset, .unset] [(.ref b59), (.ref o0)])
  obtain ⟨T14, h14, X14, e14, W14, st14⟩ := putF X13 hx hZ hown (host := "") (Or.inl (hw _ (List.mem_of_getElem? (i := 36) rfl))) Via.refl e13 Fo0_e E_o0 (Or.inr ⟨(hw _ (List.mem_of_getElem? (i := 37) rfl)), rfl, hnm⟩) (hw _ (List.mem_of_getElem? (i := 11) rfl)) (ty := (.array .int)) (by decide) rfl rfl (g := (mkF m 61 #[.val (.ref o0), .val (.int x1), .val (.int x2), .val (.ref o3), .val (.ref o4), .val (.ref o5), .val (.ref o6), .val (.int x7), .unset, .unset, .unset, .unset] [(.ref b59), (.ref o0)])) rfl rfl (hb hby d3_61)
  refine own_go st14 ?_
  replace V_o3 := V_o3.other W14 (own_ne (by omega))
  replace V_o4 := V_o4.other W14 (own_ne (by omega))
  replace V_o5 := V_o5.other W14 (own_ne (by omega))
  replace E_o0 := E_o0.wr W14
  replace Fo0_8 := Fo0_8.other W14 (Or.inr (slot_ne (ly9 hw) (ly14 hw) (by decide) pf1 pf0))
  replace Fo0_a := Fo0_a.other W14 (Or.inr (slot_ne (ly10 hw) (ly14 hw) (by decide) pf0 pf0))
  replace Fo0_b := Fo0_b.other W14 (Or.inr (slot_ne (ly11 hw) (ly14 hw) (by decide) pf0 pf0))
  replace Fo0_c := Fo0_c.other W14 (Or.inr (slot_ne (ly12 hw) (ly14 hw) (by decide) pf0 pf0))
  replace Fo0_d := Fo0_d.other W14 (Or.inr (slot_ne (ly13 hw) (ly14 hw) (by decide) pf0 pf0))
  replace Fo0_e := Fo0_e.same W14
  replace Fo0_f := Fo0_f.other W14 (Or.inr (slot_ne (ly15 hw) (ly14 hw) (by decide) pf3 pf0))
  replace Fo0_10 := Fo0_10.other W14 (Or.inr (slot_ne (ly16 hw) (ly14 hw) (by decide) pf0 pf0))
  replace Fo0_11 := Fo0_11.other W14 (Or.inr (slot_ne (ly17 hw) (ly14 hw) (by decide) pf0 pf0))
  replace Fo0_12 := Fo0_12.other W14 (Or.inr (slot_ne (ly18 hw) (ly14 hw) (by decide) pf0 pf0))
  replace Fo0_13 := Fo0_13.other W14 (Or.inr (slot_ne (ly19 hw) (ly14 hw) (by decide) pf3 pf0))
  replace Fo0_14 := Fo0_14.other W14 (Or.inr (slot_ne (ly20 hw) (ly14 hw) (by decide) pf3 pf0))
  replace Fo0_15 := Fo0_15.other W14 (Or.inr (slot_ne (ly21 hw) (ly14 hw) (by decide) pf0 pf0))
  replace Fo0_16 := Fo0_16.other W14 (Or.inr (slot_ne (ly22 hw) (ly14 hw) (by decide) pf4 pf0))
  replace Fo0_17 := Fo0_17.other W14 (Or.inr (slot_ne (ly23 hw) (ly14 hw) (by decide) pf5 pf0))
  replace Fo0_18 := Fo0_18.other W14 (Or.inr (slot_ne (ly24 hw) (ly14 hw) (by decide) pf4 pf0))
  replace Fo0_19 := Fo0_19.other W14 (Or.inr (slot_ne (ly25 hw) (ly14 hw) (by decide) pf3 pf0))
  replace Fo0_1a := Fo0_1a.other W14 (Or.inr (slot_ne (ly26 hw) (ly14 hw) (by decide) pf6 pf0))
  replace Fo0_1b := Fo0_1b.other W14 (Or.inr (slot_ne (ly27 hw) (ly14 hw) (by decide) pf0 pf0))
  replace V_o6 := V_o6.other W14 (own_ne (by omega))
  replace V_b28 := V_b28.other W14 (own_ne (by omega))
  replace V_b35 := V_b35.other W14 (own_ne (by omega))
  replace V_b43 := V_b43.other W14 (own_ne (by omega))
  replace V_b51 := V_b51.other W14 (own_ne (by omega))
  replace V_b59 := V_b59.other W14 (own_ne (by omega))
  replace K := K.wr W14 (Or.inl (List.mem_of_getElem? (i := 0) rfl))
  replace N := Fr.snoc X14 N (by omega)
  clear st14 W14 X13 e13
  show own_WP p e below _ T14 (mkF m 64 _ [])
  refine own_go (fun _ => XS.aloadN X14.here hx rfl (hb hby d3_64) rfl rfl) ?_
  show own_WP p e below _ T14 (mkF m 65 _ [(.ref o0)])
  refine own_go (fun _ => XS.iload X14.here hx rfl (hb hby d3_65) rfl) ?_
  show own_WP p e below _ T14 (mkF m 67 #[.val (.ref o0), .val (.int x1), .val (.int x2), .val (.ref o3), .val (.ref o4), .val (.ref o5), .val (.ref o6), .val (.int x7), .unset, .unset, .unset, .unset] [(.int x7), (.ref o0)])
  by_cases h67 : x7 < 0 ∨ 8 < x7.toInt
  · cases ((if_pos h67).symm.trans hv)
  replace hv := (if_neg h67).symm.trans hv
  obtain ⟨T15, h15, b67, X15, e15, E15, hb_b67, V_b67, st15⟩ := own_newJ X14 C e14 (aty := .long) (ty := .long) rfl rfl rfl (hw _ (List.mem_of_getElem? (i := 13) rfl)) (n := x7) (fun q => h67 (Or.inl q)) (cap := 8) (own_cap (k := 8) rfl (fun q => h67 (Or.inr q))) (by decide) (by decide) (by decide) (pc := 67) (Ls := #[.val (.ref o0), .val (.int x1), .val (.int x2), .val (.ref o3), .val (.ref o4), .val (.ref o5), .val (.ref o6), .val (.int x7), .unset, .unset, .unset, .unset]) (rest := [(.ref o0)]) (hb hby d3_67)
  refine own_go st15 ?_
  have o_b59_b67 : b59 < b67 := by have q : b59 < h14.size := V_b59.lt; omega
  replace V_o3 := V_o3.ext E15
  replace V_o4 := V_o4.ext E15
  replace V_o5 := V_o5.ext E15
  replace E_o0 := E_o0.ext E15
  replace Fo0_8 := Fo0_8.ext E15
  replace Fo0_a := Fo0_a.ext E15
  replace Fo0_b := Fo0_b.ext E15
  replace Fo0_c := Fo0_c.ext E15
  replace Fo0_d := Fo0_d.ext E15
  replace Fo0_e := Fo0_e.ext E15
  replace Fo0_f := Fo0_f.ext E15
  replace Fo0_10 := Fo0_10.ext E15
  replace Fo0_11 := Fo0_11.ext E15
  replace Fo0_12 := Fo0_12.ext E15
  replace Fo0_13 := Fo0_13.ext E15
  replace Fo0_14 := Fo0_14.ext E15
  replace Fo0_15 := Fo0_15.ext E15
  replace Fo0_16 := Fo0_16.ext E15
  replace Fo0_17 := Fo0_17.ext E15
  replace Fo0_18 := Fo0_18.ext E15
  replace Fo0_19 := Fo0_19.ext E15
  replace Fo0_1a := Fo0_1a.ext E15
  replace Fo0_1b := Fo0_1b.ext E15
  replace V_o6 := V_o6.ext E15
  replace V_b28 := V_b28.ext E15
  replace V_b35 := V_b35.ext E15
  replace V_b43 := V_b43.ext E15
  replace V_b51 := V_b51.ext E15
  replace V_b59 := V_b59.ext E15
  replace K := K.ext E15
  clear st15 E15 hb_b67 X14 e14
  show own_WP p e below _ T15 (mkF m 69 #[.val (.ref o0), .val (.int x1), .val (.int x2), .val (.ref o3), .val (.ref o4), .val (.ref o5), .val (.ref o6), .val (.int x7), .unset, .unset, .unset, .unset] [(.ref b67), (.ref o0)])
  obtain ⟨T16, h16, X16, e16, W16, st16⟩ := putF X15 hx hZ hown (host := "") (Or.inl (hw _ (List.mem_of_getElem? (i := 38) rfl))) Via.refl e15 Fo0_f E_o0 (Or.inr ⟨(hw _ (List.mem_of_getElem? (i := 39) rfl)), rfl, hnm⟩) (hw _ (List.mem_of_getElem? (i := 11) rfl)) (ty := (.array .long)) (by decide) rfl rfl (g := (mkF m 69 #[.val (.ref o0), .val (.int x1), .val (.int x2), .val (.ref o3), .val (.ref o4), .val (.ref o5), .val (.ref o6), .val (.int x7), .unset, .unset, .unset, .unset] [(.ref b67), (.ref o0)])) rfl rfl (hb hby d3_69)
  refine own_go st16 ?_
  replace V_o3 := V_o3.other W16 (own_ne (by omega))
  replace V_o4 := V_o4.other W16 (own_ne (by omega))
  replace V_o5 := V_o5.other W16 (own_ne (by omega))
  replace E_o0 := E_o0.wr W16
  replace Fo0_8 := Fo0_8.other W16 (Or.inr (slot_ne (ly9 hw) (ly15 hw) (by decide) pf1 pf3))
  replace Fo0_a := Fo0_a.other W16 (Or.inr (slot_ne (ly10 hw) (ly15 hw) (by decide) pf0 pf3))
  replace Fo0_b := Fo0_b.other W16 (Or.inr (slot_ne (ly11 hw) (ly15 hw) (by decide) pf0 pf3))
  replace Fo0_c := Fo0_c.other W16 (Or.inr (slot_ne (ly12 hw) (ly15 hw) (by decide) pf0 pf3))
  replace Fo0_d := Fo0_d.other W16 (Or.inr (slot_ne (ly13 hw) (ly15 hw) (by decide) pf0 pf3))
  replace Fo0_e := Fo0_e.other W16 (Or.inr (slot_ne (ly14 hw) (ly15 hw) (by decide) pf0 pf3))
  replace Fo0_f := Fo0_f.same W16
  replace Fo0_10 := Fo0_10.other W16 (Or.inr (slot_ne (ly16 hw) (ly15 hw) (by decide) pf0 pf3))
  replace Fo0_11 := Fo0_11.other W16 (Or.inr (slot_ne (ly17 hw) (ly15 hw) (by decide) pf0 pf3))
  replace Fo0_12 := Fo0_12.other W16 (Or.inr (slot_ne (ly18 hw) (ly15 hw) (by decide) pf0 pf3))
  replace Fo0_13 := Fo0_13.other W16 (Or.inr (slot_ne (ly19 hw) (ly15 hw) (by decide) pf3 pf3))
  replace Fo0_14 := Fo0_14.other W16 (Or.inr (slot_ne (ly20 hw) (ly15 hw) (by decide) pf3 pf3))
  replace Fo0_15 := Fo0_15.other W16 (Or.inr (slot_ne (ly21 hw) (ly15 hw) (by decide) pf0 pf3))
  replace Fo0_16 := Fo0_16.other W16 (Or.inr (slot_ne (ly22 hw) (ly15 hw) (by decide) pf4 pf3))
  replace Fo0_17 := Fo0_17.other W16 (Or.inr (slot_ne (ly23 hw) (ly15 hw) (by decide) pf5 pf3))
  replace Fo0_18 := Fo0_18.other W16 (Or.inr (slot_ne (ly24 hw) (ly15 hw) (by decide) pf4 pf3))
  replace Fo0_19 := Fo0_19.other W16 (Or.inr (slot_ne (ly25 hw) (ly15 hw) (by decide) pf3 pf3))
  replace Fo0_1a := Fo0_1a.other W16 (Or.inr (slot_ne (ly26 hw) (ly15 hw) (by decide) pf6 pf3))
  replace Fo0_1b := Fo0_1b.other W16 (Or.inr (slot_ne (ly27 hw) (ly15 hw) (by decide) pf0 pf3))
  replace V_o6 := V_o6.other W16 (own_ne (by omega))
  replace V_b28 := V_b28.other W16 (own_ne (by omega))
  replace V_b35 := V_b35.other W16 (own_ne (by omega))
  replace V_b43 := V_b43.other W16 (own_ne (by omega))
  replace V_b51 := V_b51.other W16 (own_ne (by omega))
  replace V_b59 := V_b59.other W16 (own_ne (by omega))
  replace V_b67 := V_b67.other W16 (own_ne (by omega))
  replace K := K.wr W16 (Or.inl (List.mem_of_getElem? (i := 0) rfl))
  replace N := Fr.snoc X16 N (by omega)
  clear st16 W16 X15 e15
  show own_WP p e below _ T16 (mkF m 72 _ [])
  refine own_go (fun _ => XS.iconst X16.here hx rfl (hb hby d3_72)) ?_
  show own_WP p e below _ T16 (mkF m 73 #[.val (.ref o0), .val (.int x1), .val (.int x2), .val (.ref o3), .val (.ref o4), .val (.ref o5), .val (.ref o6), .val (.int x7), .unset, .unset, .unset, .unset] [(.int (0 : Int32))])
  refine own_go (fun _ => XS.istore X16.here hx rfl (hb hby d3_73) rfl rfl) ?_
  show own_WP p e below _ T16 (mkF m 75 #[.val (.ref o0), .val (.int x1), .val (.int x2), .val (.ref o3), .val (.ref o4), .val (.ref o5), .val (.ref o6), .val (.int x7), .val (.int (0 : Int32)), .unset, .unset, .unset] [])
  exact b3_75 hw C Z0 rr hP 5 X16 e16 N K o_o3_o4 o_o4_o5 o_o5_o0 o_o0_o6 o_o6_b28 o_b28_b35 o_b35_b43 o_b43_b51 o_b51_b59 o_b59_b67 g_o3 z_b28 V_o3 V_o4 V_o5 E_o0 Fo0_8 Fo0_a Fo0_b Fo0_c Fo0_d Fo0_e Fo0_f Fo0_10 Fo0_11 Fo0_12 Fo0_13 Fo0_14 Fo0_15 Fo0_16 Fo0_17 Fo0_18 Fo0_19 Fo0_1a Fo0_1b V_o6 V_b28 V_b35 V_b43 V_b51 V_b59 V_b67 x1 x2 x7 (0 : Int32) hv
def f3_0 (ta : List Int32) (he : List Int32) (ca : List Int32) (s_scale : Int64) (co : List Int64) (x1 : Int32) (x2 : Int32) : Option (Int32 × (List Int32) × (List Int32) × (List Int32) × (List Int32) × (List Int32) × (List Int32) × (List Int32) × (List Int32) × (List Int32)) := ((f5_0 x2 (2 : Int32)).bind fun rr4 => (if (x1 + (1 : Int32)) < 0 ∨ 4 < (x1 + (1 : Int32)).toInt then none else (if x2 < 0 ∨ 4 < x2.toInt then none else (if rr4 < 0 ∨ 8 < rr4.toInt then none else (f3_48 ta he ca s_scale co x1 (List.replicate ((x1 + (1 : Int32))).toNatClampNeg 0) (List.replicate (x2).toNatClampNeg 0) (List.replicate (rr4).toNatClampNeg 0) x1 x2 rr4)))))
set_option maxRecDepth 65536 in
set_option maxHeartbeats 40000000 in
theorem b3_0 {p : Program} {l : Launch} {e : Env} {s : State} {m : MethodId} {args : Array Value} {below : List Frame} {meth : Method} {c : Code} {Z : State} {a0 : Array Value} {h0 : Heap} {n0 : Nat} {P : Option Value → Heap → List Loc → Prop} (hw : ∀ d ∈ tables_1, d.before a0 Z = true) (C : own_Ctx p s m meth c Z (⟨"com/example/gridfare/gridfare/engine/ResidualNetwork", "<init>", "(II[I[I[I[J)V"⟩ : MethodName) prog_42_method_1_code 12 none) (Z0 : n0 ≤ h0.size) {o3 : Nat} {o4 : Nat} {o5 : Nat} {o0 : Nat} {o6 : Nat} {ta : List Int32} {he : List Int32} {ca : List Int32} {s_scale : Int64} {co : List Int64} (rr : Int32 × (List Int32) × (List Int32) × (List Int32) × (List Int32) × (List Int32) × (List Int32) × (List Int32) × (List Int32) × (List Int32)) (hP : ∀ v h L, Fr n0 L → Keep h0 h [o0] → E3 Z h0 o3 o4 o5 o0 o6 ta he ca s_scale co rr v h → P v h L)
    {T : State} {locs : List Loc} {h : Heap} {c_o0_nodes : Int32} (X : Stand p l e rmR3 s m args below meth c T locs 0 0) (e0 : T.heap = h) (N : Fr n0 locs) (K : Keep h0 h [o0]) (o_o3_o4 : o3 < o4) (o_o4_o5 : o4 < o5) (o_o5_o0 : o5 < o0) (o_o0_o6 : o0 < o6) (g_o3 : n0 ≤ o3) (V_o3 : own_AI Z h o3 .int ta) (V_o4 : own_AI Z h o4 .int he) (V_o5 : own_AI Z h o5 .int ca) (E_o0 : Exa Z h o0 "com/example/gridfare/gridfare/engine/ResidualNetwork") (Fo0_8 : Fld Z h o0 "com/example/gridfare/gridfare/engine/ResidualNetwork" "nodes" "I" (.int c_o0_nodes)) (Fo0_9 : Fld Z h o0 "com/example/gridfare/gridfare/engine/ResidualNetwork" "scale" "J" (.long s_scale)) (Fo0_a : Fld Z h o0 "com/example/gridfare/gridfare/engine/ResidualNetwork" "firstArc" "[I" .null) (Fo0_b : Fld Z h o0 "com/example/gridfare/gridfare/engine/ResidualNetwork" "added" "[I" .null) (Fo0_c : Fld Z h o0 "com/example/gridfare/gridfare/engine/ResidualNetwork" "head" "[I" .null) (Fo0_d : Fld Z h o0 "com/example/gridfare/gridfare/engine/ResidualNetwork" "twin" "[I" .null) (Fo0_e : Fld Z h o0 "com/example/gridfare/gridfare/engine/ResidualNetwork" "residual" "[I" .null) (Fo0_f : Fld Z h o0 "com/example/gridfare/gridfare/engine/ResidualNetwork" "cost" "[J" .null) (Fo0_10 : Fld Z h o0 "com/example/gridfare/gridfare/engine/ResidualNetwork" "level" "[I" .null) (Fo0_11 : Fld Z h o0 "com/example/gridfare/gridfare/engine/ResidualNetwork" "levelled" "[I" .null) (Fo0_12 : Fld Z h o0 "com/example/gridfare/gridfare/engine/ResidualNetwork" "arcInto" "[I" .null) (Fo0_13 : Fld Z h o0 "com/example/gridfare/gridfare/engine/ResidualNetwork" "price" "[J" .null) (Fo0_14 : Fld Z h o0 "com/example/gridfare/gridfare/engine/ResidualNetwork" "excess" "[J" .null) (Fo0_15 : Fld Z h o0 "com/example/gridfare/gridfare/engine/ResidualNetwork" "active" "[I" .null) (Fo0_16 : Fld Z h o0 "com/example/gridfare/gridfare/engine/ResidualNetwork" "queued" "[Z" .null) (Fo0_17 : Fld Z h o0 "com/example/gridfare/gridfare/engine/ResidualNetwork" "nearestDeficit" "Lcom/example/gridfare/gridfare/engine/BucketQueue;" .null) (Fo0_18 : Fld Z h o0 "com/example/gridfare/gridfare/engine/ResidualNetwork" "settled" "[Z" .null) (Fo0_19 : Fld Z h o0 "com/example/gridfare/gridfare/engine/ResidualNetwork" "potential" "[J" .null) (Fo0_1a : Fld Z h o0 "com/example/gridfare/gridfare/engine/ResidualNetwork" "lowering" "Lcom/example/gridfare/gridfare/engine/LoweringTree;" .null) (Fo0_1b : Fld Z h o0 "com/example/gridfare/gridfare/engine/ResidualNetwork" "currentArc" "[I" .null) (V_o6 : own_AJ Z h o6 .long co) (x1 : Int32) (x2 : Int32) (hv : f3_0 ta he ca s_scale co x1 x2 = some rr) :
    own_WP p e below (own_Q s P rmR3.cells rmR3.slots) T (mkF m 0 #[.val (.ref o0), .val (.int x1), .val (.int x2), .val (.ref o3), .val (.ref o4), .val (.ref o5), .val (.ref o6), .unset, .unset, .unset, .unset, .unset] []) := by
  obtain ⟨hx, hZ, hby, hml, hown, hnm, hret, hlk⟩ := id C
  replace hown : s.vm.findClass "com/example/gridfare/gridfare/engine/ResidualNetwork" = some m.cls := hown
  unfold f3_0 at hv
  show own_WP p e below _ T (mkF m 0 #[.val (.ref o0), .val (.int x1), .val (.int x2), .val (.ref o3), .val (.ref o4), .val (.ref o5), .val (.ref o6), .unset, .unset, .unset, .unset, .unset] [])
  refine own_go (fun _ => XS.aloadN X.here hx rfl (hb hby d3_0) rfl rfl) ?_
  show own_WP p e below _ T (mkF m 1 #[.val (.ref o0), .val (.int x1), .val (.int x2), .val (.ref o3), .val (.ref o4), .val (.ref o5), .val (.ref o6), .unset, .unset, .unset, .unset, .unset] [(.ref o0)])
  obtain ⟨T1, X1, e1, st1⟩ := initO X hx hZ hown (hw _ (List.mem_of_getElem? (i := 17) rfl)) (hw _ (List.mem_of_getElem? (i := 18) rfl)) (hw _ (List.mem_of_getElem? (i := 19) rfl)) e0 (g := (mkF m 1 #[.val (.ref o0), .val (.int x1), .val (.int x2), .val (.ref o3), .val (.ref o4), .val (.ref o5), .val (.ref o6), .unset, .unset, .unset, .unset, .unset] [(.ref o0)])) rfl (by rw [hml]; rfl) rfl (hb hby d3_1) (by decide) (W := 0) (by show 2 * 0 + _ ≤ _; exact Nat.le_of_eq rfl) (by decide)
  refine own_go st1 ?_
  show own_WP p e below _ T1 (mkF m 4 _ [])
  refine own_go (fun _ => XS.aloadN X1.here hx rfl (hb hby d3_4) rfl rfl) ?_
  show own_WP p e below _ T1 (mkF m 5 _ [(.ref o0)])
  refine own_go (fun _ => XS.iloadN X1.here hx rfl (hb hby d3_5) rfl) ?_
  show own_WP p e below _ T1 (mkF m 6 #[.val (.ref o0), .val (.int x1), .val (.int x2), .val (.ref o3), .val (.ref o4), .val (.ref o5), .val (.ref o6), .unset, .unset, .unset, .unset, .unset] [(.int x1), (.ref o0)])
  obtain ⟨T2, h2, X2, e2, W2, st2⟩ := putF X1 hx hZ hown (host := "") (Or.inl (hw _ (List.mem_of_getElem? (i := 20) rfl))) Via.refl e1 Fo0_8 E_o0 (Or.inr ⟨(hw _ (List.mem_of_getElem? (i := 21) rfl)), rfl, hnm⟩) (hw _ (List.mem_of_getElem? (i := 11) rfl)) (ty := .int) (by decide) rfl rfl (g := (mkF m 6 #[.val (.ref o0), .val (.int x1), .val (.int x2), .val (.ref o3), .val (.ref o4), .val (.ref o5), .val (.ref o6), .unset, .unset, .unset, .unset, .unset] [(.int x1), (.ref o0)])) rfl rfl (hb hby d3_6)
  refine own_go st2 ?_
  replace V_o3 := V_o3.other W2 (own_ne (by omega))
  replace V_o4 := V_o4.other W2 (own_ne (by omega))
  replace V_o5 := V_o5.other W2 (own_ne (by omega))
  replace E_o0 := E_o0.wr W2
  replace Fo0_8 := Fo0_8.same W2
  replace Fo0_9 := Fo0_9.other W2 (Or.inr (slot_ne (ly8 hw) (ly9 hw) (by decide) pf2 pf1))
  replace Fo0_a := Fo0_a.other W2 (Or.inr (slot_ne (ly10 hw) (ly9 hw) (by decide) pf0 pf1))
  replace Fo0_b := Fo0_b.other W2 (Or.inr (slot_ne (ly11 hw) (ly9 hw) (by decide) pf0 pf1))
  replace Fo0_c := Fo0_c.other W2 (Or.inr (slot_ne (ly12 hw) (ly9 hw) (by decide) pf0 pf1))
  replace Fo0_d := Fo0_d.other W2 (Or.inr (slot_ne (ly13 hw) (ly9 hw) (by decide) pf0 pf1))
  replace Fo0_e := Fo0_e.other W2 (Or.inr (slot_ne (ly14 hw) (ly9 hw) (by decide) pf0 pf1))
  replace Fo0_f := Fo0_f.other W2 (Or.inr (slot_ne (ly15 hw) (ly9 hw) (by decide) pf3 pf1))
  replace Fo0_10 := Fo0_10.other W2 (Or.inr (slot_ne (ly16 hw) (ly9 hw) (by decide) pf0 pf1))
  replace Fo0_11 := Fo0_11.other W2 (Or.inr (slot_ne (ly17 hw) (ly9 hw) (by decide) pf0 pf1))
  replace Fo0_12 := Fo0_12.other W2 (Or.inr (slot_ne (ly18 hw) (ly9 hw) (by decide) pf0 pf1))
  replace Fo0_13 := Fo0_13.other W2 (Or.inr (slot_ne (ly19 hw) (ly9 hw) (by decide) pf3 pf1))
  replace Fo0_14 := Fo0_14.other W2 (Or.inr (slot_ne (ly20 hw) (ly9 hw) (by decide) pf3 pf1))
  replace Fo0_15 := Fo0_15.other W2 (Or.inr (slot_ne (ly21 hw) (ly9 hw) (by decide) pf0 pf1))
  replace Fo0_16 := Fo0_16.other W2 (Or.inr (slot_ne (ly22 hw) (ly9 hw) (by decide) pf4 pf1))
  replace Fo0_17 := Fo0_17.other W2 (Or.inr (slot_ne (ly23 hw) (ly9 hw) (by decide) pf5 pf1))
  replace Fo0_18 := Fo0_18.other W2 (Or.inr (slot_ne (ly24 hw) (ly9 hw) (by decide) pf4 pf1))
  replace Fo0_19 := Fo0_19.other W2 (Or.inr (slot_ne (ly25 hw) (ly9 hw) (by decide) pf3 pf1))
  replace Fo0_1a := Fo0_1a.other W2 (Or.inr (slot_ne (ly26 hw) (ly9 hw) (by decide) pf6 pf1))
  replace Fo0_1b := Fo0_1b.other W2 (Or.inr (slot_ne (ly27 hw) (ly9 hw) (by decide) pf0 pf1))
  replace V_o6 := V_o6.other W2 (own_ne (by omega))
  replace K := K.wr W2 (Or.inl (List.mem_of_getElem? (i := 0) rfl))
  replace N := Fr.snoc X2 N (by omega)
  clear st2 W2 X1 e1
  show own_WP p e below _ T2 (mkF m 9 _ [])
  refine own_go (fun _ => XS.aloadN X2.here hx rfl (hb hby d3_9) rfl rfl) ?_
  show own_WP p e below _ T2 (mkF m 10 _ [(.ref o0)])
  refine own_go (fun _ => XS.iloadN X2.here hx rfl (hb hby d3_10) rfl) ?_
  show own_WP p e below _ T2 (mkF m 11 _ [(.int x1), (.ref o0)])
  refine own_go (fun _ => XS.i2l X2.here hx rfl (hb hby d3_11) rfl) ?_
  show own_WP p e below _ T2 (mkF m 12 _ [(.long (x1.toInt64)), (.ref o0)])
  refine own_go (fun _ => XS.lconst X2.here hx rfl (hb hby d3_12)) ?_
  show own_WP p e below _ T2 (mkF m 13 _ [(.long (1 : Int64)), (.long (x1.toInt64)), (.ref o0)])
  refine own_go (fun _ => XS.ladd X2.here hx rfl (hb hby d3_13) rfl) ?_
  show own_WP p e below _ T2 (mkF m 14 #[.val (.ref o0), .val (.int x1), .val (.int x2), .val (.ref o3), .val (.ref o4), .val (.ref o5), .val (.ref o6), .unset, .unset, .unset, .unset, .unset] [(.long ((x1.toInt64) + (1 : Int64))), (.ref o0)])
  obtain ⟨T3, h3, X3, e3, W3, st3⟩ := putF X2 hx hZ hown (host := "") (Or.inl (hw _ (List.mem_of_getElem? (i := 22) rfl))) Via.refl e2 Fo0_9 E_o0 (Or.inr ⟨(hw _ (List.mem_of_getElem? (i := 23) rfl)), rfl, hnm⟩) (hw _ (List.mem_of_getElem? (i := 11) rfl)) (ty := .long) (by decide) rfl rfl (g := (mkF m 14 #[.val (.ref o0), .val (.int x1), .val (.int x2), .val (.ref o3), .val (.ref o4), .val (.ref o5), .val (.ref o6), .unset, .unset, .unset, .unset, .unset] [(.long ((x1.toInt64) + (1 : Int64))), (.ref o0)])) rfl rfl (hb hby d3_14)
  refine own_go st3 ?_
  replace V_o3 := V_o3.other W3 (own_ne (by omega))
  replace V_o4 := V_o4.other W3 (own_ne (by omega))
  replace V_o5 := V_o5.other W3 (own_ne (by omega))
  replace E_o0 := E_o0.wr W3
  replace Fo0_8 := Fo0_8.other W3 (Or.inr (slot_ne (ly9 hw) (ly8 hw) (by decide) pf1 pf2))
  replace Fo0_9 := Fo0_9.same W3
  replace Fo0_a := Fo0_a.other W3 (Or.inr (slot_ne (ly10 hw) (ly8 hw) (by decide) pf0 pf2))
  replace Fo0_b := Fo0_b.other W3 (Or.inr (slot_ne (ly11 hw) (ly8 hw) (by decide) pf0 pf2))
  replace Fo0_c := Fo0_c.other W3 (Or.inr (slot_ne (ly12 hw) (ly8 hw) (by decide) pf0 pf2))
  replace Fo0_d := Fo0_d.other W3 (Or.inr (slot_ne (ly13 hw) (ly8 hw) (by decide) pf0 pf2))
  replace Fo0_e := Fo0_e.other W3 (Or.inr (slot_ne (ly14 hw) (ly8 hw) (by decide) pf0 pf2))
  replace Fo0_f := Fo0_f.other W3 (Or.inr (slot_ne (ly15 hw) (ly8 hw) (by decide) pf3 pf2))
  replace Fo0_10 := Fo0_10.other W3 (Or.inr (slot_ne (ly16 hw) (ly8 hw) (by decide) pf0 pf2))
  replace Fo0_11 := Fo0_11.other W3 (Or.inr (slot_ne (ly17 hw) (ly8 hw) (by decide) pf0 pf2))
  replace Fo0_12 := Fo0_12.other W3 (Or.inr (slot_ne (ly18 hw) (ly8 hw) (by decide) pf0 pf2))
  replace Fo0_13 := Fo0_13.other W3 (Or.inr (slot_ne (ly19 hw) (ly8 hw) (by decide) pf3 pf2))
  replace Fo0_14 := Fo0_14.other W3 (Or.inr (slot_ne (ly20 hw) (ly8 hw) (by decide) pf3 pf2))
  replace Fo0_15 := Fo0_15.other W3 (Or.inr (slot_ne (ly21 hw) (ly8 hw) (by decide) pf0 pf2))
  replace Fo0_16 := Fo0_16.other W3 (Or.inr (slot_ne (ly22 hw) (ly8 hw) (by decide) pf4 pf2))
  replace Fo0_17 := Fo0_17.other W3 (Or.inr (slot_ne (ly23 hw) (ly8 hw) (by decide) pf5 pf2))
  replace Fo0_18 := Fo0_18.other W3 (Or.inr (slot_ne (ly24 hw) (ly8 hw) (by decide) pf4 pf2))
  replace Fo0_19 := Fo0_19.other W3 (Or.inr (slot_ne (ly25 hw) (ly8 hw) (by decide) pf3 pf2))
  replace Fo0_1a := Fo0_1a.other W3 (Or.inr (slot_ne (ly26 hw) (ly8 hw) (by decide) pf6 pf2))
  replace Fo0_1b := Fo0_1b.other W3 (Or.inr (slot_ne (ly27 hw) (ly8 hw) (by decide) pf0 pf2))
  replace V_o6 := V_o6.other W3 (own_ne (by omega))
  replace K := K.wr W3 (Or.inl (List.mem_of_getElem? (i := 0) rfl))
  replace N := Fr.snoc X3 N (by omega)
  clear st3 W3 X2 e2
  clear Fo0_9
  show own_WP p e below _ T3 (mkF m 17 _ [])
  refine own_go (fun _ => XS.iloadN X3.here hx rfl (hb hby d3_17) rfl) ?_
  show own_WP p e below _ T3 (mkF m 18 _ [(.int x2)])
  refine own_go (fun _ => XS.iconst X3.here hx rfl (hb hby d3_18)) ?_
  show own_WP p e below _ T3 (mkF m 19 #[.val (.ref o0), .val (.int x1), .val (.int x2), .val (.ref o3), .val (.ref o4), .val (.ref o5), .val (.ref o6), .unset, .unset, .unset, .unset, .unset] [(.int (2 : Int32)), (.int x2)])
  obtain ⟨rr4, hf4, hv⟩ := own_bind hv
  obtain ⟨T4, v4, L4, X4, ⟨N4, K4, Q4⟩, st4⟩ := own_callS X3 C (argsL := [(.int x2), (.int (2 : Int32))]) (rm5 l Z a0 hw n0 h3 (by have q := K.1; omega) x2 (2 : Int32) rr4 hf4) (hw _ (List.mem_of_getElem? (i := 24) rfl)) (hw _ (List.mem_of_getElem? (i := 25) rfl)) (hw _ (List.mem_of_getElem? (i := 26) rfl)) (hw _ (List.mem_of_getElem? (i := 27) rfl)) (by decide) e3 (W := 0) (pc := 19) (Ls := #[.val (.ref o0), .val (.int x1), .val (.int x2), .val (.ref o3), .val (.ref o4), .val (.ref o5), .val (.ref o6), .unset, .unset, .unset, .unset, .unset]) rfl (lenOf pd5 rfl) (rest := []) (stk := [(.int (2 : Int32)), (.int x2)]) rfl (Nat.le_of_ble_eq_true rfl) (hb hby d3_19) (by decide) (by decide) (by decide) (by decide)
  replace N := Fr.app N N4
  replace V_o3 := V_o3.keep K4 nin0
  replace V_o4 := V_o4.keep K4 nin0
  replace V_o5 := V_o5.keep K4 nin0
  replace E_o0 := E_o0.keep K4
  have nq : o0 ∉ ([] : List Addr) := nin0
  replace Fo0_8 := Fo0_8.keep K4 nq
  replace Fo0_a := Fo0_a.keep K4 nq
  replace Fo0_b := Fo0_b.keep K4 nq
  replace Fo0_c := Fo0_c.keep K4 nq
  replace Fo0_d := Fo0_d.keep K4 nq
  replace Fo0_e := Fo0_e.keep K4 nq
  replace Fo0_f := Fo0_f.keep K4 nq
  replace Fo0_10 := Fo0_10.keep K4 nq
  replace Fo0_11 := Fo0_11.keep K4 nq
  replace Fo0_12 := Fo0_12.keep K4 nq
  replace Fo0_13 := Fo0_13.keep K4 nq
  replace Fo0_14 := Fo0_14.keep K4 nq
  replace Fo0_15 := Fo0_15.keep K4 nq
  replace Fo0_16 := Fo0_16.keep K4 nq
  replace Fo0_17 := Fo0_17.keep K4 nq
  replace Fo0_18 := Fo0_18.keep K4 nq
  replace Fo0_19 := Fo0_19.keep K4 nq
  replace Fo0_1a := Fo0_1a.keep K4 nq
  replace Fo0_1b := Fo0_1b.keep K4 nq
  clear nq
  replace V_o6 := V_o6.keep K4 nin0
  obtain ⟨rfl⟩ := Q4
  replace K := K.trans K4 all0
  refine own_go st4 ?_
  clear st4 N4 K4 hf4 X3 e3
  show own_WP p e below _ T4 (mkF m 22 #[.val (.ref o0), .val (.int x1), .val (.int x2), .val (.ref o3), .val (.ref o4), .val (.ref o5), .val (.ref o6), .unset, .unset, .unset, .unset, .unset] [(.int rr4)])
  refine own_go (fun _ => XS.istore X4.here hx rfl (hb hby d3_22) rfl rfl) ?_
  show own_WP p e below _ T4 (mkF m 24 #[.val (.ref o0), .val (.int x1), .val (.int x2), .val (.ref o3), .val (.ref o4), .val (.ref o5), .val (.ref o6), .val (.int rr4), .unset, .unset, .unset, .unset] [])
  refine own_go (fun _ => XS.aloadN X4.here hx rfl (hb hby d3_24) rfl rfl) ?_
  show own_WP p e below _ T4 (mkF m 25 _ [(.ref o0)])
  refine own_go (fun _ => XS.iloadN X4.here hx rfl (hb hby d3_25) rfl) ?_
  show own_WP p e below _ T4 (mkF m 26 _ [(.int x1), (.ref o0)])
  refine own_go (fun _ => XS.iconst X4.here hx rfl (hb hby d3_26)) ?_
  show own_WP p e below _ T4 (mkF m 27 _ [(.int (1 : Int32)), (.int x1), (.ref o0)])
  refine own_go (fun _ => XS.iadd X4.here hx rfl (hb hby d3_27) rfl) ?_
  show own_WP p e below _ T4 (mkF m 28 #[.val (.ref o0), .val (.int x1), .val (.int x2), .val (.ref o3), .val (.ref o4), .val (.ref o5), .val (.ref o6), .val (.int rr4), .unset, .unset, .unset, .unset] [(.int (x1 + (1 : Int32))), (.ref o0)])
  by_cases h28 : (x1 + (1 : Int32)) < 0 ∨ 4 < (x1 + (1 : Int32)).toInt
  · cases ((if_pos h28).symm.trans hv)
  replace hv := (if_neg h28).symm.trans hv
  obtain ⟨T5, h5, b28, X5, e5, E5, hb_b28, V_b28, st5⟩ := own_newI X4 C (rfl : T4.heap = T4.heap) (aty := .int) (ty := .int) rfl rfl rfl (hw _ (List.mem_of_getElem? (i := 2) rfl)) (n := (x1 + (1 : Int32))) (fun q => h28 (Or.inl q)) (cap := 4) (own_cap (k := 4) rfl (fun q => h28 (Or.inr q))) (by decide) (by decide) (by decide) (pc := 28) (Ls := #[.val (.ref o0), .val (.int x1), .val (.int x2), .val (.ref o3), .val (.ref o4), .val (.ref o5), .val (.ref o6), .val (.int rr4), .unset, .unset, .unset, .unset]) (rest := [(.ref o0)]) (hb hby d3_28)
  refine own_go st5 ?_
  have o_o6_b28 : o6 < b28 := by have q : o6 < T4.heap.size := V_o6.lt; omega
  have z_b28 : h0.size ≤ b28 := by have q := K.1; omega
  replace V_o3 := V_o3.ext E5
  replace V_o4 := V_o4.ext E5
  replace V_o5 := V_o5.ext E5
  replace E_o0 := E_o0.ext E5
  replace Fo0_8 := Fo0_8.ext E5
  replace Fo0_a := Fo0_a.ext E5
  replace Fo0_b := Fo0_b.ext E5
  replace Fo0_c := Fo0_c.ext E5
  replace Fo0_d := Fo0_d.ext E5
  replace Fo0_e := Fo0_e.ext E5
  replace Fo0_f := Fo0_f.ext E5
  replace Fo0_10 := Fo0_10.ext E5
  replace Fo0_11 := Fo0_11.ext E5
  replace Fo0_12 := Fo0_12.ext E5
  replace Fo0_13 := Fo0_13.ext E5
  replace Fo0_14 := Fo0_14.ext E5
  replace Fo0_15 := Fo0_15.ext E5
  replace Fo0_16 := Fo0_16.ext E5
  replace Fo0_17 := Fo0_17.ext E5
  replace Fo0_18 := Fo0_18.ext E5
  replace Fo0_19 := Fo0_19.ext E5
  replace Fo0_1a := Fo0_1a.ext E5
  replace Fo0_1b := Fo0_1b.ext E5
  replace V_o6 := V_o6.ext E5
  replace K := K.ext E5
  clear st5 E5 hb_b28 X4
  show own_WP p e below _ T5 (mkF m 30 #[.val (.ref o0), .val (.int x1), .val (.int x2), .val (.ref o3), .val (.ref o4), .val (.ref o5), .val (.ref o6), .val (.int rr4), .unset, .unset, .unset, .unset] [(.ref b28), (.ref o0)])
  obtain ⟨T6, h6, X6, e6, W6, st6⟩ := putF X5 hx hZ hown (host := "") (Or.inl (hw _ (List.mem_of_getElem? (i := 28) rfl))) Via.refl e5 Fo0_a E_o0 (Or.inr ⟨(hw _ (List.mem_of_getElem? (i := 29) rfl)), rfl, hnm⟩) (hw _ (List.mem_of_getElem? (i := 11) rfl)) (ty := (.array .int)) (by decide) rfl rfl (g := (mkF m 30 #[.val (.ref o0), .val (.int x1), .val (.int x2), .val (.ref o3), .val (.ref o4), .val (.ref o5), .val (.ref o6), .val (.int rr4), .unset, .unset, .unset, .unset] [(.ref b28), (.ref o0)])) rfl rfl (hb hby d3_30)
  refine own_go st6 ?_
  replace V_o3 := V_o3.other W6 (own_ne (by omega))
  replace V_o4 := V_o4.other W6 (own_ne (by omega))
  replace V_o5 := V_o5.other W6 (own_ne (by omega))
  replace E_o0 := E_o0.wr W6
  replace Fo0_8 := Fo0_8.other W6 (Or.inr (slot_ne (ly9 hw) (ly10 hw) (by decide) pf1 pf0))
  replace Fo0_a := Fo0_a.same W6
  replace Fo0_b := Fo0_b.other W6 (Or.inr (slot_ne (ly11 hw) (ly10 hw) (by decide) pf0 pf0))
  replace Fo0_c := Fo0_c.other W6 (Or.inr (slot_ne (ly12 hw) (ly10 hw) (by decide) pf0 pf0))
  replace Fo0_d := Fo0_d.other W6 (Or.inr (slot_ne (ly13 hw) (ly10 hw) (by decide) pf0 pf0))
  replace Fo0_e := Fo0_e.other W6 (Or.inr (slot_ne (ly14 hw) (ly10 hw) (by decide) pf0 pf0))
  replace Fo0_f := Fo0_f.other W6 (Or.inr (slot_ne (ly15 hw) (ly10 hw) (by decide) pf3 pf0))
  replace Fo0_10 := Fo0_10.other W6 (Or.inr (slot_ne (ly16 hw) (ly10 hw) (by decide) pf0 pf0))
  replace Fo0_11 := Fo0_11.other W6 (Or.inr (slot_ne (ly17 hw) (ly10 hw) (by decide) pf0 pf0))
  replace Fo0_12 := Fo0_12.other W6 (Or.inr (slot_ne (ly18 hw) (ly10 hw) (by decide) pf0 pf0))
  replace Fo0_13 := Fo0_13.other W6 (Or.inr (slot_ne (ly19 hw) (ly10 hw) (by decide) pf3 pf0))
  replace Fo0_14 := Fo0_14.other W6 (Or.inr (slot_ne (ly20 hw) (ly10 hw) (by decide) pf3 pf0))
  replace Fo0_15 := Fo0_15.other W6 (Or.inr (slot_ne (ly21 hw) (ly10 hw) (by decide) pf0 pf0))
  replace Fo0_16 := Fo0_16.other W6 (Or.inr (slot_ne (ly22 hw) (ly10 hw) (by decide) pf4 pf0))
  replace Fo0_17 := Fo0_17.other W6 (Or.inr (slot_ne (ly23 hw) (ly10 hw) (by decide) pf5 pf0))
  replace Fo0_18 := Fo0_18.other W6 (Or.inr (slot_ne (ly24 hw) (ly10 hw) (by decide) pf4 pf0))
  replace Fo0_19 := Fo0_19.other W6 (Or.inr (slot_ne (ly25 hw) (ly10 hw) (by decide) pf3 pf0))
  replace Fo0_1a := Fo0_1a.other W6 (Or.inr (slot_ne (ly26 hw) (ly10 hw) (by decide) pf6 pf0))
  replace Fo0_1b := Fo0_1b.other W6 (Or.inr (slot_ne (ly27 hw) (ly10 hw) (by decide) pf0 pf0))
  replace V_o6 := V_o6.other W6 (own_ne (by omega))
  replace V_b28 := V_b28.other W6 (own_ne (by omega))
  replace K := K.wr W6 (Or.inl (List.mem_of_getElem? (i := 0) rfl))
  replace N := Fr.snoc X6 N (by omega)
  clear st6 W6 X5 e5
  show own_WP p e below _ T6 (mkF m 33 _ [])
  refine own_go (fun _ => XS.aloadN X6.here hx rfl (hb hby d3_33) rfl rfl) ?_
  show own_WP p e below _ T6 (mkF m 34 _ [(.ref o0)])
  refine own_go (fun _ => XS.iloadN X6.here hx rfl (hb hby d3_34) rfl) ?_
  show own_WP p e below _ T6 (mkF m 35 #[.val (.ref o0), .val (.int x1), .val (.int x2), .val (.ref o3), .val (.ref o4), .val (.ref o5), .val (.ref o6), .val (.int rr4), .unset, .unset, .unset, .unset] [(.int x2), (.ref o0)])
  by_cases h35 : x2 < 0 ∨ 4 < x2.toInt
  · cases ((if_pos h35).symm.trans hv)
  replace hv := (if_neg h35).symm.trans hv
  obtain ⟨T7, h7, b35, X7, e7, E7, hb_b35, V_b35, st7⟩ := own_newI X6 C e6 (aty := .int) (ty := .int) rfl rfl rfl (hw _ (List.mem_of_getElem? (i := 2) rfl)) (n := x2) (fun q => h35 (Or.inl q)) (cap := 4) (own_cap (k := 4) rfl (fun q => h35 (Or.inr q))) (by decide) (by decide) (by decide) (pc := 35) (Ls := #[.val (.ref o0), .val (.int x1), .val (.int x2), .val (.ref o3), .val (.ref o4), .val (.ref o5), .val (.ref o6), .val (.int rr4), .unset, .unset, .unset, .unset]) (rest := [(.ref o0)]) (hb hby d3_35)
  refine own_go st7 ?_
  have o_b28_b35 : b28 < b35 := by have q : b28 < h6.size := V_b28.lt; omega
  replace V_o3 := V_o3.ext E7
  replace V_o4 := V_o4.ext E7
  replace V_o5 := V_o5.ext E7
  replace E_o0 := E_o0.ext E7
  replace Fo0_8 := Fo0_8.ext E7
  replace Fo0_a := Fo0_a.ext E7
  replace Fo0_b := Fo0_b.ext E7
  replace Fo0_c := Fo0_c.ext E7
  replace Fo0_d := Fo0_d.ext E7
  replace Fo0_e := Fo0_e.ext E7
  replace Fo0_f := Fo0_f.ext E7
  replace Fo0_10 := Fo0_10.ext E7
  replace Fo0_11 := Fo0_11.ext E7
  replace Fo0_12 := Fo0_12.ext E7
  replace Fo0_13 := Fo0_13.ext E7
  replace Fo0_14 := Fo0_14.ext E7
  replace Fo0_15 := Fo0_15.ext E7
  replace Fo0_16 := Fo0_16.ext E7
  replace Fo0_17 := Fo0_17.ext E7
  replace Fo0_18 := Fo0_18.ext E7
  replace Fo0_19 := Fo0_19.ext E7
  replace Fo0_1a := Fo0_1a.ext E7
  replace Fo0_1b := Fo0_1b.ext E7
  replace V_o6 := V_o6.ext E7
  replace V_b28 := V_b28.ext E7
  replace K := K.ext E7
  clear st7 E7 hb_b35 X6 e6
  show own_WP p e below _ T7 (mkF m 37 #[.val (.ref o0), .val (.int x1), .val (.int x2), .val (.ref o3), .val (.ref o4), .val (.ref o5), .val (.ref o6), .val (.int rr4), .unset, .unset, .unset, .unset] [(.ref b35), (.ref o0)])
  obtain ⟨T8, h8, X8, e8, W8, st8⟩ := putF X7 hx hZ hown (host := "") (Or.inl (hw _ (List.mem_of_getElem? (i := 30) rfl))) Via.refl e7 Fo0_b E_o0 (Or.inr ⟨(hw _ (List.mem_of_getElem? (i := 31) rfl)), rfl, hnm⟩) (hw _ (List.mem_of_getElem? (i := 11) rfl)) (ty := (.array .int)) (by decide) rfl rfl (g := (mkF m 37 #[.val (.ref o0), .val (.int x1), .val (.int x2), .val (.ref o3), .val (.ref o4), .val (.ref o5), .val (.ref o6), .val (.int rr4), .unset, .unset, .unset, .unset] [(.ref b35), (.ref o0)])) rfl rfl (hb hby d3_37)
  refine own_go st8 ?_
  replace V_o3 := V_o3.other W8 (own_ne (by omega))
  replace V_o4 := V_o4.other W8 (own_ne (by omega))
  replace V_o5 := V_o5.other W8 (own_ne (by omega))
  replace E_o0 := E_o0.wr W8
  replace Fo0_8 := Fo0_8.other W8 (Or.inr (slot_ne (ly9 hw) (ly11 hw) (by decide) pf1 pf0))
  replace Fo0_a := Fo0_a.other W8 (Or.inr (slot_ne (ly10 hw) (ly11 hw) (by decide) pf0 pf0))
  replace Fo0_b := Fo0_b.same W8
  replace Fo0_c := Fo0_c.other W8 (Or.inr (slot_ne (ly12 hw) (ly11 hw) (by decide) pf0 pf0))
  replace Fo0_d := Fo0_d.other W8 (Or.inr (slot_ne (ly13 hw) (ly11 hw) (by decide) pf0 pf0))
  replace Fo0_e := Fo0_e.other W8 (Or.inr (slot_ne (ly14 hw) (ly11 hw) (by decide) pf0 pf0))
  replace Fo0_f := Fo0_f.other W8 (Or.inr (slot_ne (ly15 hw) (ly11 hw) (by decide) pf3 pf0))
  replace Fo0_10 := Fo0_10.other W8 (Or.inr (slot_ne (ly16 hw) (ly11 hw) (by decide) pf0 pf0))
  replace Fo0_11 := Fo0_11.other W8 (Or.inr (slot_ne (ly17 hw) (ly11 hw) (by decide) pf0 pf0))
  replace Fo0_12 := Fo0_12.other W8 (Or.inr (slot_ne (ly18 hw) (ly11 hw) (by decide) pf0 pf0))
  replace Fo0_13 := Fo0_13.other W8 (Or.inr (slot_ne (ly19 hw) (ly11 hw) (by decide) pf3 pf0))
  replace Fo0_14 := Fo0_14.other W8 (Or.inr (slot_ne (ly20 hw) (ly11 hw) (by decide) pf3 pf0))
  replace Fo0_15 := Fo0_15.other W8 (Or.inr (slot_ne (ly21 hw) (ly11 hw) (by decide) pf0 pf0))
  replace Fo0_16 := Fo0_16.other W8 (Or.inr (slot_ne (ly22 hw) (ly11 hw) (by decide) pf4 pf0))
  replace Fo0_17 := Fo0_17.other W8 (Or.inr (slot_ne (ly23 hw) (ly11 hw) (by decide) pf5 pf0))
  replace Fo0_18 := Fo0_18.other W8 (Or.inr (slot_ne (ly24 hw) (ly11 hw) (by decide) pf4 pf0))
  replace Fo0_19 := Fo0_19.other W8 (Or.inr (slot_ne (ly25 hw) (ly11 hw) (by decide) pf3 pf0))
  replace Fo0_1a := Fo0_1a.other W8 (Or.inr (slot_ne (ly26 hw) (ly11 hw) (by decide) pf6 pf0))
  replace Fo0_1b := Fo0_1b.other W8 (Or.inr (slot_ne (ly27 hw) (ly11 hw) (by decide) pf0 pf0))
  replace V_o6 := V_o6.other W8 (own_ne (by omega))
  replace V_b28 := V_b28.other W8 (own_ne (by omega))
  replace V_b35 := V_b35.other W8 (own_ne (by omega))
  replace K := K.wr W8 (Or.inl (List.mem_of_getElem? (i := 0) rfl))
  replace N := Fr.snoc X8 N (by omega)
  clear st8 W8 X7 e7
  show own_WP p e below _ T8 (mkF m 40 _ [])
  refine own_go (fun _ => XS.aloadN X8.here hx rfl (hb hby d3_40) rfl rfl) ?_
  show own_WP p e below _ T8 (mkF m 41 _ [(.ref o0)])
  refine own_go (fun _ => XS.iload X8.here hx rfl (hb hby d3_41) rfl) ?_
  show own_WP p e below _ T8 (mkF m 43 #[.val (.ref o0), .val (.int x1), .val (.int x2), .val (.ref o3), .val (.ref o4), .val (.ref o5), .val (.ref o6), .val (.int rr4), .unset, .unset, .unset, .unset] [(.int rr4), (.ref o0)])
  by_cases h43 : rr4 < 0 ∨ 8 < rr4.toInt
  · cases ((if_pos h43).symm.trans hv)
  replace hv := (if_neg h43).symm.trans hv
  obtain ⟨T9, h9, b43, X9, e9, E9, hb_b43, V_b43, st9⟩ := own_newI X8 C e8 (aty := .int) (ty := .int) rfl rfl rfl (hw _ (List.mem_of_getElem? (i := 2) rfl)) (n := rr4) (fun q => h43 (Or.inl q)) (cap := 8) (own_cap (k := 8) rfl (fun q => h43 (Or.inr q))) (by decide) (by decide) (by decide) (pc := 43) (Ls := #[.val (.ref o0), .val (.int x1), .val (.int x2), .val (.ref o3), .val (.ref o4), .val (.ref o5), .val (.ref o6), .val (.int rr4), .unset, .unset, .unset, .unset]) (rest := [(.ref o0)]) (hb hby d3_43)
  refine own_go st9 ?_
  have o_b35_b43 : b35 < b43 := by have q : b35 < h8.size := V_b35.lt; omega
  replace V_o3 := V_o3.ext E9
  replace V_o4 := V_o4.ext E9
  replace V_o5 := V_o5.ext E9
  replace E_o0 := E_o0.ext E9
  replace Fo0_8 := Fo0_8.ext E9
  replace Fo0_a := Fo0_a.ext E9
  replace Fo0_b := Fo0_b.ext E9
  replace Fo0_c := Fo0_c.ext E9
  replace Fo0_d := Fo0_d.ext E9
  replace Fo0_e := Fo0_e.ext E9
  replace Fo0_f := Fo0_f.ext E9
  replace Fo0_10 := Fo0_10.ext E9
  replace Fo0_11 := Fo0_11.ext E9
  replace Fo0_12 := Fo0_12.ext E9
  replace Fo0_13 := Fo0_13.ext E9
  replace Fo0_14 := Fo0_14.ext E9
  replace Fo0_15 := Fo0_15.ext E9
  replace Fo0_16 := Fo0_16.ext E9
  replace Fo0_17 := Fo0_17.ext E9
  replace Fo0_18 := Fo0_18.ext E9
  replace Fo0_19 := Fo0_19.ext E9
  replace Fo0_1a := Fo0_1a.ext E9
  replace Fo0_1b := Fo0_1b.ext E9
  replace V_o6 := V_o6.ext E9
  replace V_b28 := V_b28.ext E9
  replace V_b35 := V_b35.ext E9
  replace K := K.ext E9
  clear st9 E9 hb_b43 X8 e8
  show own_WP p e below _ T9 (mkF m 45 #[.val (.ref o0), .val (.int x1), .val (.int x2), .val (.ref o3), .val (.ref o4), .val (.ref o5), .val (.ref o6), .val (.int rr4), .unset, .unset, .unset, .unset] [(.ref b43), (.ref o0)])
  obtain ⟨T10, h10, X10, e10, W10, st10⟩ := putF X9 hx hZ hown (host := "") (Or.inl (hw _ (List.mem_of_getElem? (i := 32) rfl))) Via.refl e9 Fo0_c E_o0 (Or.inr ⟨(hw _ (List.mem_of_getElem? (i := 33) rfl)), rfl, hnm⟩) (hw _ (List.mem_of_getElem? (i := 11) rfl)) (ty := (.array .int)) (by decide) rfl rfl (g := (mkF m 45 #[.val (.ref o0), .val (.int x1), .val (.int x2), .val (.ref o3), .val (.ref o4), .val (.ref o5), .val (.ref o6), .val (.int rr4), .unset, .unset, .unset, .unset] [(.ref b43), (.ref o0)])) rfl rfl (hb hby d3_45)
  refine own_go st10 ?_
  replace V_o3 := V_o3.other W10 (own_ne (by omega))
  replace V_o4 := V_o4.other W10 (own_ne (by omega))
  replace V_o5 := V_o5.other W10 (own_ne (by omega))
  replace E_o0 := E_o0.wr W10
  replace Fo0_8 := Fo0_8.other W10 (Or.inr (slot_ne (ly9 hw) (ly12 hw) (by decide) pf1 pf0))
  replace Fo0_a := Fo0_a.other W10 (Or.inr (slot_ne (ly10 hw) (ly12 hw) (by decide) pf0 pf0))
  replace Fo0_b := Fo0_b.other W10 (Or.inr (slot_ne (ly11 hw) (ly12 hw) (by decide) pf0 pf0))
  replace Fo0_c := Fo0_c.same W10
  replace Fo0_d := Fo0_d.other W10 (Or.inr (slot_ne (ly13 hw) (ly12 hw) (by decide) pf0 pf0))
  replace Fo0_e := Fo0_e.other W10 (Or.inr (slot_ne (ly14 hw) (ly12 hw) (by decide) pf0 pf0))
  replace Fo0_f := Fo0_f.other W10 (Or.inr (slot_ne (ly15 hw) (ly12 hw) (by decide) pf3 pf0))
  replace Fo0_10 := Fo0_10.other W10 (Or.inr (slot_ne (ly16 hw) (ly12 hw) (by decide) pf0 pf0))
  replace Fo0_11 := Fo0_11.other W10 (Or.inr (slot_ne (ly17 hw) (ly12 hw) (by decide) pf0 pf0))
  replace Fo0_12 := Fo0_12.other W10 (Or.inr (slot_ne (ly18 hw) (ly12 hw) (by decide) pf0 pf0))
  replace Fo0_13 := Fo0_13.other W10 (Or.inr (slot_ne (ly19 hw) (ly12 hw) (by decide) pf3 pf0))
  replace Fo0_14 := Fo0_14.other W10 (Or.inr (slot_ne (ly20 hw) (ly12 hw) (by decide) pf3 pf0))
  replace Fo0_15 := Fo0_15.other W10 (Or.inr (slot_ne (ly21 hw) (ly12 hw) (by decide) pf0 pf0))
  replace Fo0_16 := Fo0_16.other W10 (Or.inr (slot_ne (ly22 hw) (ly12 hw) (by decide) pf4 pf0))
  replace Fo0_17 := Fo0_17.other W10 (Or.inr (slot_ne (ly23 hw) (ly12 hw) (by decide) pf5 pf0))
  replace Fo0_18 := Fo0_18.other W10 (Or.inr (slot_ne (ly24 hw) (ly12 hw) (by decide) pf4 pf0))
  replace Fo0_19 := Fo0_19.other W10 (Or.inr (slot_ne (ly25 hw) (ly12 hw) (by decide) pf3 pf0))
  replace Fo0_1a := Fo0_1a.other W10 (Or.inr (slot_ne (ly26 hw) (ly12 hw) (by decide) pf6 pf0))
  replace Fo0_1b := Fo0_1b.other W10 (Or.inr (slot_ne (ly27 hw) (ly12 hw) (by decide) pf0 pf0))
  replace V_o6 := V_o6.other W10 (own_ne (by omega))
  replace V_b28 := V_b28.other W10 (own_ne (by omega))
  replace V_b35 := V_b35.other W10 (own_ne (by omega))
  replace V_b43 := V_b43.other W10 (own_ne (by omega))
  replace K := K.wr W10 (Or.inl (List.mem_of_getElem? (i := 0) rfl))
  replace N := Fr.snoc X10 N (by omega)
  clear st10 W10 X9 e9
  exact b3_48 hw C Z0 rr hP X10 e10 N K o_o3_o4 o_o4_o5 o_o5_o0 o_o0_o6 o_o6_b28 o_b28_b35 o_b35_b43 g_o3 z_b28 V_o3 V_o4 V_o5 E_o0 Fo0_8 Fo0_a Fo0_b Fo0_c Fo0_d Fo0_e Fo0_f Fo0_10 Fo0_11 Fo0_12 Fo0_13 Fo0_14 Fo0_15 Fo0_16 Fo0_17 Fo0_18 Fo0_19 Fo0_1a Fo0_1b V_o6 V_b28 V_b35 V_b43 x1 x2 rr4 hv
theorem ef3 (m : MethodId) (o0 : Nat) (x1 : Int32) (x2 : Int32) (o3 : Nat) (o4 : Nat) (o5 : Nat) (o6 : Nat) : entryFrame m #[(.ref o0), (.int x1), (.int x2), (.ref o3), (.ref o4), (.ref o5), (.ref o6)] 12 = (mkF m 0 #[.val (.ref o0), .val (.int x1), .val (.int x2), .val (.ref o3), .val (.ref o4), .val (.ref o5), .val (.ref o6), .unset, .unset, .unset, .unset, .unset] []) := by first | (simp [entryFrame, mkF, argsToLocals, Value.category]; done) | rfl
theorem pd3 : parseMethodDescriptor "(II[I[I[I[J)V" = some ⟨[.int, .int, (.array .int), (.array .int), (.array .int), (.array .long)], none⟩ := by decide +kernel
theorem pn3 : plainFor (⟨"com/example/gridfare/gridfare/engine/ResidualNetwork", "<init>", "(II[I[I[I[J)V"⟩ : MethodName) = true := plainFor_of_name (by first | (simp [plainName, overriddenIn]; done) | decide +kernel)
theorem rm3 (l : Launch) (Z : State) (a0 : Array Value) (hw : ∀ d ∈ tables_1, d.before a0 Z = true) (n0 : Nat) (h0 : Heap) (Z0 : n0 ≤ h0.size) {o3 : Nat} {o4 : Nat} {o5 : Nat} {o0 : Nat} {o6 : Nat} {ta : List Int32} {he : List Int32} {ca : List Int32} {s_scale : Int64} {co : List Int64} {c_o0_nodes : Int32} (o_o3_o4 : o3 < o4) (o_o4_o5 : o4 < o5) (o_o5_o0 : o5 < o0) (o_o0_o6 : o0 < o6) (g_o3 : n0 ≤ o3) (V_o3 : own_AI Z h0 o3 .int ta) (V_o4 : own_AI Z h0 o4 .int he) (V_o5 : own_AI Z h0 o5 .int ca) (E_o0 : Exa Z h0 o0 "com/example/gridfare/gridfare/engine/ResidualNetwork") (Fo0_8 : Fld Z h0 o0 "com/example/gridfare/gridfare/engine/ResidualNetwork" "nodes" "I" (.int c_o0_nodes)) (Fo0_9 : Fld Z h0 o0 "com/example/gridfare/gridfare/engine/ResidualNetwork" "scale" "J" (.long s_scale)) (Fo0_a : Fld Z h0 o0 "com/example/gridfare/gridfare/engine/ResidualNetwork" "firstArc" "[I" .null) (Fo0_b : Fld Z h0 o0 "com/example/gridfare/gridfare/engine/ResidualNetwork" "added" "[I" .null) (Fo0_c : Fld Z h0 o0 "com/example/gridfare/gridfare/engine/ResidualNetwork" "head" "[I" .null) (Fo0_d : Fld Z h0 o0 "com/example/gridfare/gridfare/engine/ResidualNetwork" "twin" "[I" .null) (Fo0_e : Fld Z h0 o0 "com/example/gridfare/gridfare/engine/ResidualNetwork" "residual" "[I" .null) (Fo0_f : Fld Z h0 o0 "com/example/gridfare/gridfare/engine/ResidualNetwork" "cost" "[J" .null) (Fo0_10 : Fld Z h0 o0 "com/example/gridfare/gridfare/engine/ResidualNetwork" "level" "[I" .null) (Fo0_11 : Fld Z h0 o0 "com/example/gridfare/gridfare/engine/ResidualNetwork" "levelled" "[I" .null) (Fo0_12 : Fld Z h0 o0 "com/example/gridfare/gridfare/engine/ResidualNetwork" "arcInto" "[I" .null) (Fo0_13 : Fld Z h0 o0 "com/example/gridfare/gridfare/engine/ResidualNetwork" "price" "[J" .null) (Fo0_14 : Fld Z h0 o0 "com/example/gridfare/gridfare/engine/ResidualNetwork" "excess" "[J" .null) (Fo0_15 : Fld Z h0 o0 "com/example/gridfare/gridfare/engine/ResidualNetwork" "active" "[I" .null) (Fo0_16 : Fld Z h0 o0 "com/example/gridfare/gridfare/engine/ResidualNetwork" "queued" "[Z" .null) (Fo0_17 : Fld Z h0 o0 "com/example/gridfare/gridfare/engine/ResidualNetwork" "nearestDeficit" "Lcom/example/gridfare/gridfare/engine/BucketQueue;" .null) (Fo0_18 : Fld Z h0 o0 "com/example/gridfare/gridfare/engine/ResidualNetwork" "settled" "[Z" .null) (Fo0_19 : Fld Z h0 o0 "com/example/gridfare/gridfare/engine/ResidualNetwork" "potential" "[J" .null) (Fo0_1a : Fld Z h0 o0 "com/example/gridfare/gridfare/engine/ResidualNetwork" "lowering" "Lcom/example/gridfare/gridfare/engine/LoweringTree;" .null) (Fo0_1b : Fld Z h0 o0 "com/example/gridfare/gridfare/engine/ResidualNetwork" "currentArc" "[I" .null) (V_o6 : own_AJ Z h0 o6 .long co) (x1 : Int32) (x2 : Int32)  (rr : Int32 × (List Int32) × (List Int32) × (List Int32) × (List Int32) × (List Int32) × (List Int32) × (List Int32) × (List Int32) × (List Int32)) (hf : f3_0 ta he ca s_scale co x1 x2 = some rr) :
    own_Met l Z (⟨"com/example/gridfare/gridfare/engine/ResidualNetwork", "<init>", "(II[I[I[I[J)V"⟩ : MethodName) prog_42_method_1_code 12 none [] rmR3 #[(.ref o0), (.int x1), (.int x2), (.ref o3), (.ref o4), (.ref o5), (.ref o6)] h0 (fun v h L => Fr n0 L ∧ Keep h0 h [o0] ∧ E3 Z h0 o3 o4 o5 o0 o6 ta he ca s_scale co rr v h) := by
  refine own_body pn3 ?_
  intro p e s m below meth c s₁ C X e0
  exact own_cast (ef3 m o0 x1 x2 o3 o4 o5 o6) (b3_0 hw C Z0 rr (fun v h L a b c => ⟨a, b, c⟩) X e0 (Fr.nil n0) (Keep.refl h0 [o0]) o_o3_o4 o_o4_o5 o_o5_o0 o_o0_o6 g_o3 V_o3 V_o4 V_o5 E_o0 Fo0_8 Fo0_9 Fo0_a Fo0_b Fo0_c Fo0_d Fo0_e Fo0_f Fo0_10 Fo0_11 Fo0_12 Fo0_13 Fo0_14 Fo0_15 Fo0_16 Fo0_17 Fo0_18 Fo0_19 Fo0_1a Fo0_1b V_o6 x1 x2 hf)
theorem d17_0 : decode prog_42_method_20_code 0 = .ok (.aload_n 0, 1) := by decide +kernel
theorem d17_1 : decode prog_42_method_20_code 1 = .ok (.getfield 36, 3) := by decide +kernel
theorem d17_4 : decode prog_42_method_20_code 4 = .ok (.iload_n 1, 1) := by decide +kernel
theorem d17_5 : decode prog_42_method_20_code 5 = .ok (.dup2, 1) := by decide +kernel
theorem d17_6 : decode prog_42_method_20_code 6 = .ok (.iaload, 1) := by decide +kernel
theorem d17_7 : decode prog_42_method_20_code 7 = .ok (.iload_n 2, 1) := by decide +kernel
theorem d17_8 : decode prog_42_method_20_code 8 = .ok (.isub, 1) := by decide +kernel
theorem d17_9 : decode prog_42_method_20_code 9 = .ok (.iastore, 1) := by decide +kernel
theorem d17_10 : decode prog_42_method_20_code 10 = .ok (.aload_n 0, 1) := by decide +kernel
theorem d17_11 : decode prog_42_method_20_code 11 = .ok (.getfield 36, 3) := by decide +kernel
theorem d17_14 : decode prog_42_method_20_code 14 = .ok (.aload_n 0, 1) := by decide +kernel
theorem d17_15 : decode prog_42_method_20_code 15 = .ok (.getfield 33, 3) := by decide +kernel
theorem d17_18 : decode prog_42_method_20_code 18 = .ok (.iload_n 1, 1) := by decide +kernel
theorem d17_19 : decode prog_42_method_20_code 19 = .ok (.iaload, 1) := by decide +kernel
theorem d17_20 : decode prog_42_method_20_code 20 = .ok (.dup2, 1) := by decide +kernel
theorem d17_21 : decode prog_42_method_20_code 21 = .ok (.iaload, 1) := by decide +kernel
theorem d17_22 : decode prog_42_method_20_code 22 = .ok (.iload_n 2, 1) := by decide +kernel
theorem d17_23 : decode prog_42_method_20_code 23 = .ok (.iadd, 1) := by decide +kernel
theorem d17_24 : decode prog_42_method_20_code 24 = .ok (.iastore, 1) := by decide +kernel
theorem d17_25 : decode prog_42_method_20_code 25 = .ok (.return_, 1) := by decide +kernel
def rmR17 : Room := { frames := 0, cells := 0, slots := 0, locals := 0 }
def E17 (Z : State) (h0 : Heap) (o0 : Nat) (qtw : Nat) (qre : Nat) (ltw : List Int32) (rr : (List Int32)) (v : Option Value) (h : Heap) : Prop := v = none ∧ own_AI Z h qre .int rr
def f17_0 (ltw : List Int32) (v_qre : List Int32) (x1 : Int32) (x2 : Int32) : Option ((List Int32)) := ((own_get v_qre x1).bind fun w2 => ((own_set v_qre x1 (w2 - x2)).bind fun u3 => ((own_get ltw x1).bind fun w6 => ((own_get u3 w6).bind fun w7 => ((own_set u3 w6 (w7 + x2)).bind fun u8 => (some u8))))))
set_option maxRecDepth 65536 in
set_option maxHeartbeats 40000000 in
theorem b17_0 {p : Program} {l : Launch} {e : Env} {s : State} {m : MethodId} {args : Array Value} {below : List Frame} {meth : Method} {c : Code} {Z : State} {a0 : Array Value} {h0 : Heap} {n0 : Nat} {P : Option Value → Heap → List Loc → Prop} (hw : ∀ d ∈ tables_1, d.before a0 Z = true) (C : own_Ctx p s m meth c Z (⟨"com/example/gridfare/gridfare/engine/ResidualNetwork", "push", "(II)V"⟩ : MethodName) prog_42_method_20_code 3 none) (Z0 : n0 ≤ h0.size) {o0 : Nat} {qtw : Nat} {qre : Nat} {ltw : List Int32} (rr : (List Int32)) (hP : ∀ v h L, Fr n0 L → Keep h0 h [qre] → E17 Z h0 o0 qtw qre ltw rr v h → P v h L)
    {T : State} {locs : List Loc} {h : Heap} {v_qre : List Int32} (X : Stand p l e rmR17 s m args below meth c T locs 0 0) (e0 : T.heap = h) (N : Fr n0 locs) (K : Keep h0 h [qre]) (o_o0_qtw : o0 < qtw) (o_qtw_qre : qtw < qre) (g_o0 : n0 ≤ o0) (E_o0 : Exa Z h o0 "com/example/gridfare/gridfare/engine/ResidualNetwork") (Fo0_d : Fld Z h o0 "com/example/gridfare/gridfare/engine/ResidualNetwork" "twin" "[I" (.ref qtw)) (Fo0_e : Fld Z h o0 "com/example/gridfare/gridfare/engine/ResidualNetwork" "residual" "[I" (.ref qre)) (V_qtw : own_AI Z h qtw .int ltw) (V_qre : own_AI Z h qre .int v_qre) (x1 : Int32) (x2 : Int32) (hv : f17_0 ltw v_qre x1 x2 = some rr) :
    own_WP p e below (own_Q s P rmR17.cells rmR17.slots) T (mkF m 0 #[.val (.ref o0), .val (.int x1), .val (.int x2)] []) := by
  obtain ⟨hx, hZ, hby, hml, hown, hnm, hret, hlk⟩ := id C
  replace hown : s.vm.findClass "com/example/gridfare/gridfare/engine/ResidualNetwork" = some m.cls := hown
  unfold f17_0 at hv
  show own_WP p e below _ T (mkF m 0 #[.val (.ref o0), .val (.int x1), .val (.int x2)] [])
  refine own_go (fun _ => XS.aloadN X.here hx rfl (hb hby d17_0) rfl rfl) ?_
  show own_WP p e below _ T (mkF m 1 _ [(.ref o0)])
  obtain ⟨T1, X1, e1, st1⟩ := getF X hx hZ hown (host := "") (Or.inl (hw _ (List.mem_of_getElem? (i := 36) rfl))) Via.refl e0 Fo0_e (g := (mkF m 1 #[.val (.ref o0), .val (.int x1), .val (.int x2)] [(.ref o0)])) rfl rfl (hb hby d17_1)
  refine own_go st1 ?_
  clear st1 X e0
  show own_WP p e below _ T1 (mkF m 4 _ [(.ref qre)])
  refine own_go (fun _ => XS.iloadN X1.here hx rfl (hb hby d17_4) rfl) ?_
  show own_WP p e below _ T1 (mkF m 5 _ [(.int x1), (.ref qre)])
  refine own_go (fun _ => XT.dup2 X1.here hx rfl (hb hby d17_5) rfl rfl rfl) ?_
  show own_WP p e below _ T1 (mkF m 6 _ [(.int x1), (.ref qre), (.int x1), (.ref qre)])
  obtain ⟨w2, hg2, hv⟩ := own_bind hv
  refine own_go (own_iaload X1 C e1 V_qre hg2 (hb hby d17_6)) ?_
  show own_WP p e below _ T1 (mkF m 7 _ [(.int w2), (.int x1), (.ref qre)])
  refine own_go (fun _ => XS.iloadN X1.here hx rfl (hb hby d17_7) rfl) ?_
  show own_WP p e below _ T1 (mkF m 8 _ [(.int x2), (.int w2), (.int x1), (.ref qre)])
  refine own_go (fun _ => XS.isub X1.here hx rfl (hb hby d17_8) rfl) ?_
  show own_WP p e below _ T1 (mkF m 9 _ [(.int (w2 - x2)), (.int x1), (.ref qre)])
  obtain ⟨u3, hg3, hv⟩ := own_bind hv
  obtain ⟨T3, h3, X3, e3, W3, V'3, st3⟩ := own_iastore X1 C e1 V_qre (j := x1) (x := (w2 - x2)) hg3 (hb hby d17_9)
  refine own_go st3 ?_
  replace E_o0 := E_o0.wr W3
  have nq : @Ne Addr o0 qre := own_ne (by omega)
  replace Fo0_d := Fo0_d.other W3 (Or.inl nq)
  replace Fo0_e := Fo0_e.other W3 (Or.inl nq)
  clear nq
  replace V_qtw := V_qtw.other W3 (own_ne (by omega))
  replace V_qre := V'3
  clear V'3
  replace K := K.wr W3 (Or.inl (List.mem_of_getElem? (i := 0) rfl))
  replace N := Fr.snoc X3 N (by omega)
  clear st3 W3 hg3 X1 e1
  show own_WP p e below _ T3 (mkF m 10 #[.val (.ref o0), .val (.int x1), .val (.int x2)] [])
  refine own_go (fun _ => XS.aloadN X3.here hx rfl (hb hby d17_10) rfl rfl) ?_
  show own_WP p e below _ T3 (mkF m 11 _ [(.ref o0)])
  obtain ⟨T4, X4, e4, st4⟩ := getF X3 hx hZ hown (host := "") (Or.inl (hw _ (List.mem_of_getElem? (i := 36) rfl))) Via.refl e3 Fo0_e (g := (mkF m 11 #[.val (.ref o0), .val (.int x1), .val (.int x2)] [(.ref o0)])) rfl rfl (hb hby d17_11)
  refine own_go st4 ?_
  clear st4 X3 e3
  show own_WP p e below _ T4 (mkF m 14 _ [(.ref qre)])
  refine own_go (fun _ => XS.aloadN X4.here hx rfl (hb hby d17_14) rfl rfl) ?_
  show own_WP p e below _ T4 (mkF m 15 _ [(.ref o0), (.ref qre)])
  obtain ⟨T5, X5, e5, st5⟩ := getF X4 hx hZ hown (host := "") (Or.inl (hw _ (List.mem_of_getElem? (i := 34) rfl))) Via.refl e4 Fo0_d (g := (mkF m 15 #[.val (.ref o0), .val (.int x1), .val (.int x2)] [(.ref o0), (.ref qre)])) rfl rfl (hb hby d17_15)
  refine own_go st5 ?_
  clear st5 X4 e4
  show own_WP p e below _ T5 (mkF m 18 _ [(.ref qtw), (.ref qre)])
  refine own_go (fun _ => XS.iloadN X5.here hx rfl (hb hby d17_18) rfl) ?_
  show own_WP p e below _ T5 (mkF m 19 _ [(.int x1), (.ref qtw), (.ref qre)])
  obtain ⟨w6, hg6, hv⟩ := own_bind hv
  refine own_go (own_iaload X5 C e5 V_qtw hg6 (hb hby d17_19)) ?_
  show own_WP p e below _ T5 (mkF m 20 _ [(.int w6), (.ref qre)])
  refine own_go (fun _ => XT.dup2 X5.here hx rfl (hb hby d17_20) rfl rfl rfl) ?_
  show own_WP p e below _ T5 (mkF m 21 _ [(.int w6), (.ref qre), (.int w6), (.ref qre)])
  obtain ⟨w7, hg7, hv⟩ := own_bind hv
  refine own_go (own_iaload X5 C e5 V_qre hg7 (hb hby d17_21)) ?_
  show own_WP p e below _ T5 (mkF m 22 #[.val (.ref o0), .val (.int x1), .val (.int x2)] [(.int w7), (.int w6), (.ref qre)])
  refine own_go (fun _ => XS.iloadN X5.here hx rfl (hb hby d17_22) rfl) ?_
  show own_WP p e below _ T5 (mkF m 23 _ [(.int x2), (.int w7), (.int w6), (.ref qre)])
  refine own_go (fun _ => XS.iadd X5.here hx rfl (hb hby d17_23) rfl) ?_
  show own_WP p e below _ T5 (mkF m 24 _ [(.int (w7 + x2)), (.int w6), (.ref qre)])
  obtain ⟨u8, hg8, hv⟩ := own_bind hv
  obtain ⟨T8, h8, X8, e8, W8, V'8, st8⟩ := own_iastore X5 C e5 V_qre (j := w6) (x := (w7 + x2)) hg8 (hb hby d17_24)
  refine own_go st8 ?_
  replace E_o0 := E_o0.wr W8
  have nq : @Ne Addr o0 qre := own_ne (by omega)
  replace Fo0_d := Fo0_d.other W8 (Or.inl nq)
  replace Fo0_e := Fo0_e.other W8 (Or.inl nq)
  clear nq
  replace V_qtw := V_qtw.other W8 (own_ne (by omega))
  replace V_qre := V'8
  clear V'8
  replace K := K.wr W8 (Or.inl (List.mem_of_getElem? (i := 0) rfl))
  replace N := Fr.snoc X8 N (by omega)
  clear st8 W8 hg8 X5 e5
  show own_WP p e below _ T8 (mkF m 25 #[.val (.ref o0), .val (.int x1), .val (.int x2)] [])
  obtain rfl := Option.some.inj hv
  exact own_retV X8 C (hb hby d17_25) (by rw [e8]; exact hP _ _ _ N K ⟨rfl, V_qre⟩) (by decide) (by decide)
theorem ef17 (m : MethodId) (o0 : Nat) (x1 : Int32) (x2 : Int32) : entryFrame m #[(.ref o0), (.int x1), (.int x2)] 3 = (mkF m 0 #[.val (.ref o0), .val (.int x1), .val (.int x2)] []) := by first | (simp [entryFrame, mkF, argsToLocals, Value.category]; done) | rfl
theorem pd17 : parseMethodDescriptor "(II)V" = some ⟨[.int, .int], none⟩ := by decide +kernel
theorem pn17 : plainFor (⟨"com/example/gridfare/gridfare/engine/ResidualNetwork", "push", "(II)V"⟩ : MethodName) = true := plainFor_of_name (by first | (simp [plainName, overriddenIn]; done) | decide +kernel)
theorem rm17 (l : Launch) (Z : State) (a0 : Array Value) (hw : ∀ d ∈ tables_1, d.before a0 Z = true) (n0 : Nat) (h0 : Heap) (Z0 : n0 ≤ h0.size) {o0 : Nat} {qtw : Nat} {qre : Nat} {ltw : List Int32} {v_qre : List Int32} (o_o0_qtw : o0 < qtw) (o_qtw_qre : qtw < qre) (g_o0 : n0 ≤ o0) (E_o0 : Exa Z h0 o0 "com/example/gridfare/gridfare/engine/ResidualNetwork") (Fo0_d : Fld Z h0 o0 "com/example/gridfare/gridfare/engine/ResidualNetwork" "twin" "[I" (.ref qtw)) (Fo0_e : Fld Z h0 o0 "com/example/gridfare/gridfare/engine/ResidualNetwork" "residual" "[I" (.ref qre)) (V_qtw : own_AI Z h0 qtw .int ltw) (V_qre : own_AI Z h0 qre .int v_qre) (x1 : Int32) (x2 : Int32)  (rr : (List Int32)) (hf : f17_0 ltw v_qre x1 x2 = some rr) :
    own_Met l Z (⟨"com/example/gridfare/gridfare/engine/ResidualNetwork", "push", "(II)V"⟩ : MethodName) prog_42_method_20_code 3 none [] rmR17 #[(.ref o0), (.int x1), (.int x2)] h0 (fun v h L => Fr n0 L ∧ Keep h0 h [qre] ∧ E17 Z h0 o0 qtw qre ltw rr v h) := by
  refine own_body pn17 ?_
  intro p e s m below meth c s₁ C X e0
  exact own_cast (ef17 m o0 x1 x2) (b17_0 hw C Z0 rr (fun v h L a b c => ⟨a, b, c⟩) X e0 (Fr.nil n0) (Keep.refl h0 [qre]) o_o0_qtw o_qtw_qre g_o0 E_o0 Fo0_d Fo0_e V_qtw V_qre x1 x2 hf)
theorem d15_0 : decode prog_42_method_8_code 0 = .ok (.lload_n 3, 1) := by decide +kernel
theorem d15_1 : decode prog_42_method_8_code 1 = .ok (.lstore 5, 2) := by decide +kernel
theorem d15_3 : decode prog_42_method_8_code 3 = .ok (.iload_n 2, 1) := by decide +kernel
theorem d15_4 : decode prog_42_method_8_code 4 = .ok (.istore 7, 2) := by decide +kernel
theorem d15_6 : decode prog_42_method_8_code 6 = .ok (.iload 7, 2) := by decide +kernel
theorem d15_8 : decode prog_42_method_8_code 8 = .ok (.iload_n 1, 1) := by decide +kernel
theorem d15_9 : decode prog_42_method_8_code 9 = .ok (.if_icmp .eq 45, 3) := by decide +kernel
theorem d15_12 : decode prog_42_method_8_code 12 = .ok (.lload 5, 2) := by decide +kernel
theorem d15_14 : decode prog_42_method_8_code 14 = .ok (.aload_n 0, 1) := by decide +kernel
theorem d15_15 : decode prog_42_method_8_code 15 = .ok (.getfield 36, 3) := by decide +kernel
theorem d15_18 : decode prog_42_method_8_code 18 = .ok (.aload_n 0, 1) := by decide +kernel
theorem d15_19 : decode prog_42_method_8_code 19 = .ok (.getfield 55, 3) := by decide +kernel
theorem d15_22 : decode prog_42_method_8_code 22 = .ok (.iload 7, 2) := by decide +kernel
theorem d15_24 : decode prog_42_method_8_code 24 = .ok (.iaload, 1) := by decide +kernel
theorem d15_25 : decode prog_42_method_8_code 25 = .ok (.iaload, 1) := by decide +kernel
theorem d15_26 : decode prog_42_method_8_code 26 = .ok (.i2l, 1) := by decide +kernel
theorem d15_27 : decode prog_42_method_8_code 27 = .ok (.invokestatic 156, 3) := by decide +kernel
theorem d15_30 : decode prog_42_method_8_code 30 = .ok (.lstore 5, 2) := by decide +kernel
theorem d15_32 : decode prog_42_method_8_code 32 = .ok (.aload_n 0, 1) := by decide +kernel
theorem d15_33 : decode prog_42_method_8_code 33 = .ok (.getfield 30, 3) := by decide +kernel
theorem d15_36 : decode prog_42_method_8_code 36 = .ok (.aload_n 0, 1) := by decide +kernel
theorem d15_37 : decode prog_42_method_8_code 37 = .ok (.getfield 33, 3) := by decide +kernel
theorem d15_40 : decode prog_42_method_8_code 40 = .ok (.aload_n 0, 1) := by decide +kernel
theorem d15_41 : decode prog_42_method_8_code 41 = .ok (.getfield 55, 3) := by decide +kernel
theorem d15_44 : decode prog_42_method_8_code 44 = .ok (.iload 7, 2) := by decide +kernel
theorem d15_46 : decode prog_42_method_8_code 46 = .ok (.iaload, 1) := by decide +kernel
theorem d15_47 : decode prog_42_method_8_code 47 = .ok (.iaload, 1) := by decide +kernel
theorem d15_48 : decode prog_42_method_8_code 48 = .ok (.iaload, 1) := by decide +kernel
theorem d15_49 : decode prog_42_method_8_code 49 = .ok (.istore 7, 2) := by decide +kernel
theorem d15_51 : decode prog_42_method_8_code 51 = .ok (.goto (-45), 3) := by decide +kernel
theorem d15_54 : decode prog_42_method_8_code 54 = .ok (.lload 5, 2) := by decide +kernel
theorem d15_56 : decode prog_42_method_8_code 56 = .ok (.l2i, 1) := by decide +kernel
theorem d15_57 : decode prog_42_method_8_code 57 = .ok (.istore 7, 2) := by decide +kernel
theorem d15_59 : decode prog_42_method_8_code 59 = .ok (.iload_n 2, 1) := by decide +kernel
theorem d15_60 : decode prog_42_method_8_code 60 = .ok (.istore 8, 2) := by decide +kernel
theorem d15_62 : decode prog_42_method_8_code 62 = .ok (.iload 8, 2) := by decide +kernel
theorem d15_64 : decode prog_42_method_8_code 64 = .ok (.iload_n 1, 1) := by decide +kernel
theorem d15_65 : decode prog_42_method_8_code 65 = .ok (.if_icmp .eq 38, 3) := by decide +kernel
theorem d15_68 : decode prog_42_method_8_code 68 = .ok (.aload_n 0, 1) := by decide +kernel
theorem d15_69 : decode prog_42_method_8_code 69 = .ok (.aload_n 0, 1) := by decide +kernel
theorem d15_70 : decode prog_42_method_8_code 70 = .ok (.getfield 55, 3) := by decide +kernel
theorem d15_73 : decode prog_42_method_8_code 73 = .ok (.iload 8, 2) := by decide +kernel
theorem d15_75 : decode prog_42_method_8_code 75 = .ok (.iaload, 1) := by decide +kernel
theorem d15_76 : decode prog_42_method_8_code 76 = .ok (.iload 7, 2) := by decide +kernel
theorem d15_78 : decode prog_42_method_8_code 78 = .ok (.invokevirtual 159, 3) := by decide +kernel
theorem d15_81 : decode prog_42_method_8_code 81 = .ok (.aload_n 0, 1) := by decide +kernel
theorem d15_82 : decode prog_42_method_8_code 82 = .ok (.getfield 30, 3) := by decide +kernel
theorem d15_85 : decode prog_42_method_8_code 85 = .ok (.aload_n 0, 1) := by decide +kernel
theorem d15_86 : decode prog_42_method_8_code 86 = .ok (.getfield 33, 3) := by decide +kernel
theorem d15_89 : decode prog_42_method_8_code 89 = .ok (.aload_n 0, 1) := by decide +kernel
theorem d15_90 : decode prog_42_method_8_code 90 = .ok (.getfield 55, 3) := by decide +kernel
theorem d15_93 : decode prog_42_method_8_code 93 = .ok (.iload 8, 2) := by decide +kernel
theorem d15_95 : decode prog_42_method_8_code 95 = .ok (.iaload, 1) := by decide +kernel
theorem d15_96 : decode prog_42_method_8_code 96 = .ok (.iaload, 1) := by decide +kernel
theorem d15_97 : decode prog_42_method_8_code 97 = .ok (.iaload, 1) := by decide +kernel
theorem d15_98 : decode prog_42_method_8_code 98 = .ok (.istore 8, 2) := by decide +kernel
theorem d15_100 : decode prog_42_method_8_code 100 = .ok (.goto (-38), 3) := by decide +kernel
theorem d15_103 : decode prog_42_method_8_code 103 = .ok (.iload 7, 2) := by decide +kernel
theorem d15_105 : decode prog_42_method_8_code 105 = .ok (.ireturn, 1) := by decide +kernel
def rmR15 : Room := { frames := 1, cells := 0, slots := 0, locals := 15 }
def E15 (Z : State) (h0 : Heap) (o0 : Nat) (qhd : Nat) (qtw : Nat) (qre : Nat) (qai : Nat) (lhd : List Int32) (ltw : List Int32) (lai : List Int32) (rr : Int32 × (List Int32)) (v : Option Value) (h : Heap) : Prop := v = some (.int (rr.1)) ∧ own_AI Z h qre .int (rr.2)
def f15_62 : Nat → (List Int32) → (List Int32) → (List Int32) → (List Int32) → Int32 → Int32 → Int32 → Option (Int32 × (List Int32))
  | 0 => fun _ _ _ _ _ _ _ => none
  | k + 1 => fun lhd ltw lai v_qre x1 x7 x8 => (if x8 = x1 then (some (x7, v_qre)) else ((own_get lai x8).bind fun w2 => ((f17_0 ltw v_qre w2 x7).bind fun rr3 => ((own_get lai x8).bind fun w7 => ((own_get ltw w7).bind fun w8 => ((own_get lhd w8).bind fun w9 => (f15_62 k lhd ltw lai rr3 x1 x7 w9)))))))
set_option maxRecDepth 65536 in
set_option maxHeartbeats 40000000 in
theorem b15_62 {p : Program} {l : Launch} {e : Env} {s : State} {m : MethodId} {args : Array Value} {below : List Frame} {meth : Method} {c : Code} {Z : State} {a0 : Array Value} {h0 : Heap} {n0 : Nat} {P : Option Value → Heap → List Loc → Prop} (hw : ∀ d ∈ tables_1, d.before a0 Z = true) (C : own_Ctx p s m meth c Z (⟨"com/example/gridfare/gridfare/engine/ResidualNetwork", "sendAlongPath", "(IIJ)I"⟩ : MethodName) prog_42_method_8_code 9 (some .int)) (Z0 : n0 ≤ h0.size) {o0 : Nat} {qhd : Nat} {qtw : Nat} {qre : Nat} {qai : Nat} {lhd : List Int32} {ltw : List Int32} {lai : List Int32} (rr : Int32 × (List Int32)) (hP : ∀ v h L, Fr n0 L → Keep h0 h [qre] → E15 Z h0 o0 qhd qtw qre qai lhd ltw lai rr v h → P v h L) (k : Nat) : ∀ {T : State} {locs : List Loc} {h : Heap} {v_qre : List Int32} (X : Stand p l e rmR15 s m args below meth c T locs 0 0) (e0 : T.heap = h) (N : Fr n0 locs) (K : Keep h0 h [qre]) (o_o0_qhd : o0 < qhd) (o_qhd_qtw : qhd < qtw) (o_qtw_qre : qtw < qre) (o_qre_qai : qre < qai) (g_o0 : n0 ≤ o0) (E_o0 : Exa Z h o0 "com/example/gridfare/gridfare/engine/ResidualNetwork") (Fo0_c : Fld Z h o0 "com/example/gridfare/gridfare/engine/ResidualNetwork" "head" "[I" (.ref qhd)) (Fo0_d : Fld Z h o0 "com/example/gridfare/gridfare/engine/ResidualNetwork" "twin" "[I" (.ref qtw)) (Fo0_e : Fld Z h o0 "com/example/gridfare/gridfare/engine/ResidualNetwork" "residual" "[I" (.ref qre)) (Fo0_12 : Fld Z h o0 "com/example/gridfare/gridfare/engine/ResidualNetwork" "arcInto" "[I" (.ref qai)) (V_qhd : own_AI Z h qhd .int lhd) (V_qtw : own_AI Z h qtw .int ltw) (V_qre : own_AI Z h qre .int v_qre) (V_qai : own_AI Z h qai .int lai) (x1 : Int32) (x2 : Int32) (x3 : Int64) (x5 : Int64) (x7 : Int32) (x8 : Int32) (hv : f15_62 k lhd ltw lai v_qre x1 x7 x8 = some rr),
    own_WP p e below (own_Q s P rmR15.cells rmR15.slots) T (mkF m 62 #[.val (.ref o0), .val (.int x1), .val (.int x2), .val (.long x3), .second, .val (.long x5), .second, .val (.int x7), .val (.int x8)] []) := by
  obtain ⟨hx, hZ, hby, hml, hown, hnm, hret, hlk⟩ := id C
  replace hown : s.vm.findClass "com/example/gridfare/gridfare/engine/ResidualNetwork" = some m.cls := hown
  induction k with
  | zero => intros; rename_i hv; cases hv
  | succ k ih =>
    intro T locs h v_qre X e0 N K o_o0_qhd o_qhd_qtw o_qtw_qre o_qre_qai g_o0 E_o0 Fo0_c Fo0_d Fo0_e Fo0_12 V_qhd V_qtw V_qre V_qai x1 x2 x3 x5 x7 x8 hv
    unfold f15_62 at hv
    show own_WP p e below _ T (mkF m 62 #[.val (.ref o0), .val (.int x1), .val (.int x2), .val (.long x3), .second, .val (.long x5), .second, .val (.int x7), .val (.int x8)] [])
    refine own_go (fun _ => XS.iload X.here hx rfl (hb hby d15_62) rfl) ?_
    show own_WP p e below _ T (mkF m 64 _ [(.int x8)])
    refine own_go (fun _ => XS.iloadN X.here hx rfl (hb hby d15_64) rfl) ?_
    show own_WP p e below _ T (mkF m 65 _ [(.int x1), (.int x8)])
    by_cases h65 : x8 = x1
    · replace hv := (if_pos h65).symm.trans hv
      refine own_go (fun _ => XS.icmpYes X.here hx rfl (pc0 := 65) (pc' := 103) rfl (hb hby d15_65) rfl (XT.ii_eq_t h65) (by decide) (by decide)) ?_
      show own_WP p e below _ T (mkF m 103 #[.val (.ref o0), .val (.int x1), .val (.int x2), .val (.long x3), .second, .val (.long x5), .second, .val (.int x7), .val (.int x8)] [])
      refine own_go (fun _ => XS.iload X.here hx rfl (hb hby d15_103) rfl) ?_
      show own_WP p e below _ T (mkF m 105 #[.val (.ref o0), .val (.int x1), .val (.int x2), .val (.long x3), .second, .val (.long x5), .second, .val (.int x7), .val (.int x8)] [(.int x7)])
      obtain rfl := Option.some.inj hv
      exact own_retI X C (hb hby d15_105) (by rw [e0]; exact hP _ _ _ N K ⟨rfl, V_qre⟩) (by decide) (by decide)
    · replace hv := (if_neg h65).symm.trans hv
      refine own_go (fun _ => XS.icmpNo X.here hx rfl (hb hby d15_65) rfl (XT.ii_eq_f h65)) ?_
      show own_WP p e below _ T (mkF m 68 #[.val (.ref o0), .val (.int x1), .val (.int x2), .val (.long x3), .second, .val (.long x5), .second, .val (.int x7), .val (.int x8)] [])
      refine own_go (fun _ => XS.aloadN X.here hx rfl (hb hby d15_68) rfl rfl) ?_
      show own_WP p e below _ T (mkF m 69 _ [(.ref o0)])
      refine own_go (fun _ => XS.aloadN X.here hx rfl (hb hby d15_69) rfl rfl) ?_
      show own_WP p e below _ T (mkF m 70 _ [(.ref o0), (.ref o0)])
      obtain ⟨T1, X1, e1, st1⟩ := getF X hx hZ hown (host := "") (Or.inl (hw _ (List.mem_of_getElem? (i := 55) rfl))) Via.refl e0 Fo0_12 (g := (mkF m 70 #[.val (.ref o0), .val (.int x1), .val (.int x2), .val (.long x3), .second, .val (.long x5), .second, .val (.int x7), .val (.int x8)] [(.ref o0), (.ref o0)])) rfl rfl (hb hby d15_70)
      refine own_go st1 ?_
      clear st1 X e0
      show own_WP p e below _ T1 (mkF m 73 _ [(.ref qai), (.ref o0)])
      refine own_go (fun _ => XS.iload X1.here hx rfl (hb hby d15_73) rfl) ?_
      show own_WP p e below _ T1 (mkF m 75 _ [(.int x8), (.ref qai), (.ref o0)])
      obtain ⟨w2, hg2, hv⟩ := own_bind hv
      refine own_go (own_iaload X1 C e1 V_qai hg2 (hb hby d15_75)) ?_
      show own_WP p e below _ T1 (mkF m 76 _ [(.int w2), (.ref o0)])
      refine own_go (fun _ => XS.iload X1.here hx rfl (hb hby d15_76) rfl) ?_
      show own_WP p e below _ T1 (mkF m 78 #[.val (.ref o0), .val (.int x1), .val (.int x2), .val (.long x3), .second, .val (.long x5), .second, .val (.int x7), .val (.int x8)] [(.int x7), (.int w2), (.ref o0)])
      obtain ⟨rr3, hf3, hv⟩ := own_bind hv
      obtain ⟨T3, v3, L3, X3, ⟨N3, K3, Q3⟩, st3⟩ := own_callR X1 C (a := o0) (argsL := [(.int w2), (.int x7)]) (rm17 l Z a0 hw n0 h (by have q := K.1; omega) (by omega) (by omega) (by omega) E_o0 Fo0_d Fo0_e V_qtw V_qre w2 x7 rr3 hf3) (hw _ (List.mem_of_getElem? (i := 136) rfl)) (own_selP (y2 := (⟨"com/example/gridfare/gridfare/engine/ResidualNetwork", "sendMaxFlow", "(IIJ)J"⟩ : MethodName)) rfl (hw _ (List.mem_of_getElem? (i := 117) rfl)) (hw _ (List.mem_of_getElem? (i := 137) rfl)) (hw _ (List.mem_of_getElem? (i := 138) rfl)) (by decide)) (hw _ (List.mem_of_getElem? (i := 138) rfl)) (hw _ (List.mem_of_getElem? (i := 137) rfl)) (hw _ (List.mem_of_getElem? (i := 12) rfl)) (hw _ (List.mem_of_getElem? (i := 139) rfl)) (by decide) e1 E_o0 (W := 0) (pc := 78) (Ls := #[.val (.ref o0), .val (.int x1), .val (.int x2), .val (.long x3), .second, .val (.long x5), .second, .val (.int x7), .val (.int x8)]) rfl (lenOf pd17 rfl) (rest := []) (stk := [(.int x7), (.int w2), (.ref o0)]) rfl (Nat.le_of_ble_eq_true rfl) (hb hby d15_78) (by decide) (by decide) (by decide) (by decide)
      replace N := Fr.app N N3
      replace E_o0 := E_o0.keep K3
      have nq : o0 ∉ ([qre] : List Addr) := (ninS (own_ne (by omega)) nin0)
      replace Fo0_c := Fo0_c.keep K3 nq
      replace Fo0_d := Fo0_d.keep K3 nq
      replace Fo0_e := Fo0_e.keep K3 nq
      replace Fo0_12 := Fo0_12.keep K3 nq
      clear nq
      replace V_qhd := V_qhd.keep K3 (ninS (own_ne (by omega)) nin0)
      replace V_qtw := V_qtw.keep K3 (ninS (own_ne (by omega)) nin0)
      replace V_qai := V_qai.keep K3 (ninS (own_ne (by omega)) nin0)
      clear V_qre
      obtain ⟨rfl, V_qre⟩ := Q3
      replace K := K.trans K3 (allS (Or.inl (List.mem_of_getElem? (i := 0) rfl)) all0)
      refine own_go st3 ?_
      clear st3 N3 K3 hf3 X1 e1
      show own_WP p e below _ T3 (mkF m 81 _ [])
      refine own_go (fun _ => XS.aloadN X3.here hx rfl (hb hby d15_81) rfl rfl) ?_
      show own_WP p e below _ T3 (mkF m 82 _ [(.ref o0)])
      obtain ⟨T4, X4, e4, st4⟩ := getF X3 hx hZ hown (host := "") (Or.inl (hw _ (List.mem_of_getElem? (i := 32) rfl))) Via.refl (rfl : T3.heap = T3.heap) Fo0_c (g := (mkF m 82 #[.val (.ref o0), .val (.int x1), .val (.int x2), .val (.long x3), .second, .val (.long x5), .second, .val (.int x7), .val (.int x8)] [(.ref o0)])) rfl rfl (hb hby d15_82)
      refine own_go st4 ?_
      clear st4 X3
      show own_WP p e below _ T4 (mkF m 85 _ [(.ref qhd)])
      refine own_go (fun _ => XS.aloadN X4.here hx rfl (hb hby d15_85) rfl rfl) ?_
      show own_WP p e below _ T4 (mkF m 86 _ [(.ref o0), (.ref qhd)])
      obtain ⟨T5, X5, e5, st5⟩ := getF X4 hx hZ hown (host := "") (Or.inl (hw _ (List.mem_of_getElem? (i := 34) rfl))) Via.refl e4 Fo0_d (g := (mkF m 86 #[.val (.ref o0), .val (.int x1), .val (.int x2), .val (.long x3), .second, .val (.long x5), .second, .val (.int x7), .val (.int x8)] [(.ref o0), (.ref qhd)])) rfl rfl (hb hby d15_86)
      refine own_go st5 ?_
      clear st5 X4 e4
      show own_WP p e below _ T5 (mkF m 89 _ [(.ref qtw), (.ref qhd)])
      refine own_go (fun _ => XS.aloadN X5.here hx rfl (hb hby d15_89) rfl rfl) ?_
      show own_WP p e below _ T5 (mkF m 90 _ [(.ref o0), (.ref qtw), (.ref qhd)])
      obtain ⟨T6, X6, e6, st6⟩ := getF X5 hx hZ hown (host := "") (Or.inl (hw _ (List.mem_of_getElem? (i := 55) rfl))) Via.refl e5 Fo0_12 (g := (mkF m 90 #[.val (.ref o0), .val (.int x1), .val (.int x2), .val (.long x3), .second, .val (.long x5), .second, .val (.int x7), .val (.int x8)] [(.ref o0), (.ref qtw), (.ref qhd)])) rfl rfl (hb hby d15_90)
      refine own_go st6 ?_
      clear st6 X5 e5
      show own_WP p e below _ T6 (mkF m 93 _ [(.ref qai), (.ref qtw), (.ref qhd)])
      refine own_go (fun _ => XS.iload X6.here hx rfl (hb hby d15_93) rfl) ?_
      show own_WP p e below _ T6 (mkF m 95 #[.val (.ref o0), .val (.int x1), .val (.int x2), .val (.long x3), .second, .val (.long x5), .second, .val (.int x7), .val (.int x8)] [(.int x8), (.ref qai), (.ref qtw), (.ref qhd)])
      obtain ⟨w7, hg7, hv⟩ := own_bind hv
      refine own_go (own_iaload X6 C e6 V_qai hg7 (hb hby d15_95)) ?_
      show own_WP p e below _ T6 (mkF m 96 _ [(.int w7), (.ref qtw), (.ref qhd)])
      obtain ⟨w8, hg8, hv⟩ := own_bind hv
      refine own_go (own_iaload X6 C e6 V_qtw hg8 (hb hby d15_96)) ?_
      show own_WP p e below _ T6 (mkF m 97 _ [(.int w8), (.ref qhd)])
      obtain ⟨w9, hg9, hv⟩ := own_bind hv
      refine own_go (own_iaload X6 C e6 V_qhd hg9 (hb hby d15_97)) ?_
      show own_WP p e below _ T6 (mkF m 98 #[.val (.ref o0), .val (.int x1), .val (.int x2), .val (.long x3), .second, .val (.long x5), .second, .val (.int x7), .val (.int x8)] [(.int w9)])
      refine own_go (fun _ => XS.istore X6.here hx rfl (hb hby d15_98) rfl rfl) ?_
      show own_WP p e below _ T6 (mkF m 100 #[.val (.ref o0), .val (.int x1), .val (.int x2), .val (.long x3), .second, .val (.long x5), .second, .val (.int x7), .val (.int w9)] [])
      refine own_go (fun _ => XS.goto X6.here hx rfl (pc0 := 100) (pc' := 62) rfl (hb hby d15_100) (by decide) (by decide)) ?_
      exact ih X6 e6 N K o_o0_qhd o_qhd_qtw o_qtw_qre o_qre_qai g_o0 E_o0 Fo0_c Fo0_d Fo0_e Fo0_12 V_qhd V_qtw V_qre V_qai x1 x2 x3 x5 x7 w9 hv
def f15_6 : Nat → (List Int32) → (List Int32) → (List Int32) → (List Int32) → Int32 → Int32 → Int64 → Int32 → Option (Int32 × (List Int32))
  | 0 => fun _ _ _ _ _ _ _ _ => none
  | k + 1 => fun lhd ltw lai v_qre x1 x2 x5 x7 => (if x7 = x1 then (f15_62 5 lhd ltw lai v_qre x1 (x5.toInt32) x2) else ((own_get lai x7).bind fun w12 => ((own_get v_qre w12).bind fun w13 => ((own_get lai x7).bind fun w18 => ((own_get ltw w18).bind fun w19 => ((own_get lhd w19).bind fun w20 => (f15_6 k lhd ltw lai v_qre x1 x2 (f16_0 x5 (w13.toInt64)) w20)))))))
set_option maxRecDepth 65536 in
set_option maxHeartbeats 40000000 in
theorem b15_6 {p : Program} {l : Launch} {e : Env} {s : State} {m : MethodId} {args : Array Value} {below : List Frame} {meth : Method} {c : Code} {Z : State} {a0 : Array Value} {h0 : Heap} {n0 : Nat} {P : Option Value → Heap → List Loc → Prop} (hw : ∀ d ∈ tables_1, d.before a0 Z = true) (C : own_Ctx p s m meth c Z (⟨"com/example/gridfare/gridfare/engine/ResidualNetwork", "sendAlongPath", "(IIJ)I"⟩ : MethodName) prog_42_method_8_code 9 (some .int)) (Z0 : n0 ≤ h0.size) {o0 : Nat} {qhd : Nat} {qtw : Nat} {qre : Nat} {qai : Nat} {lhd : List Int32} {ltw : List Int32} {lai : List Int32} (rr : Int32 × (List Int32)) (hP : ∀ v h L, Fr n0 L → Keep h0 h [qre] → E15 Z h0 o0 qhd qtw qre qai lhd ltw lai rr v h → P v h L) (k : Nat) : ∀ {T : State} {locs : List Loc} {h : Heap} {v_qre : List Int32} (X : Stand p l e rmR15 s m args below meth c T locs 0 0) (e0 : T.heap = h) (N : Fr n0 locs) (K : Keep h0 h [qre]) (o_o0_qhd : o0 < qhd) (o_qhd_qtw : qhd < qtw) (o_qtw_qre : qtw < qre) (o_qre_qai : qre < qai) (g_o0 : n0 ≤ o0) (E_o0 : Exa Z h o0 "com/example/gridfare/gridfare/engine/ResidualNetwork") (Fo0_c : Fld Z h o0 "com/example/gridfare/gridfare/engine/ResidualNetwork" "head" "[I" (.ref qhd)) (Fo0_d : Fld Z h o0 "com/example/gridfare/gridfare/engine/ResidualNetwork" "twin" "[I" (.ref qtw)) (Fo0_e : Fld Z h o0 "com/example/gridfare/gridfare/engine/ResidualNetwork" "residual" "[I" (.ref qre)) (Fo0_12 : Fld Z h o0 "com/example/gridfare/gridfare/engine/ResidualNetwork" "arcInto" "[I" (.ref qai)) (V_qhd : own_AI Z h qhd .int lhd) (V_qtw : own_AI Z h qtw .int ltw) (V_qre : own_AI Z h qre .int v_qre) (V_qai : own_AI Z h qai .int lai) (x1 : Int32) (x2 : Int32) (x3 : Int64) (x5 : Int64) (x7 : Int32) (hv : f15_6 k lhd ltw lai v_qre x1 x2 x5 x7 = some rr),
    own_WP p e below (own_Q s P rmR15.cells rmR15.slots) T (mkF m 6 #[.val (.ref o0), .val (.int x1), .val (.int x2), .val (.long x3), .second, .val (.long x5), .second, .val (.int x7), .unset] []) := by
  obtain ⟨hx, hZ, hby, hml, hown, hnm, hret, hlk⟩ := id C
  replace hown : s.vm.findClass "com/example/gridfare/gridfare/engine/ResidualNetwork" = some m.cls := hown
  induction k with
  | zero => intros; rename_i hv; cases hv
  | succ k ih =>
    intro T locs h v_qre X e0 N K o_o0_qhd o_qhd_qtw o_qtw_qre o_qre_qai g_o0 E_o0 Fo0_c Fo0_d Fo0_e Fo0_12 V_qhd V_qtw V_qre V_qai x1 x2 x3 x5 x7 hv
    unfold f15_6 at hv
    show own_WP p e below _ T (mkF m 6 #[.val (.ref o0), .val (.int x1), .val (.int x2), .val (.long x3), .second, .val (.long x5), .second, .val (.int x7), .unset] [])
    refine own_go (fun _ => XS.iload X.here hx rfl (hb hby d15_6) rfl) ?_
    show own_WP p e below _ T (mkF m 8 _ [(.int x7)])
    refine own_go (fun _ => XS.iloadN X.here hx rfl (hb hby d15_8) rfl) ?_
    show own_WP p e below _ T (mkF m 9 _ [(.int x1), (.int x7)])
    by_cases h9 : x7 = x1
    · replace hv := (if_pos h9).symm.trans hv
      refine own_go (fun _ => XS.icmpYes X.here hx rfl (pc0 := 9) (pc' := 54) rfl (hb hby d15_9) rfl (XT.ii_eq_t h9) (by decide) (by decide)) ?_
      show own_WP p e below _ T (mkF m 54 #[.val (.ref o0), .val (.int x1), .val (.int x2), .val (.long x3), .second, .val (.long x5), .second, .val (.int x7), .unset] [])
      refine own_go (fun _ => XS.lload X.here hx rfl (hb hby d15_54) rfl) ?_
      show own_WP p e below _ T (mkF m 56 _ [(.long x5)])
      refine own_go (fun _ => XS.l2i X.here hx rfl (hb hby d15_56) rfl) ?_
      show own_WP p e below _ T (mkF m 57 #[.val (.ref o0), .val (.int x1), .val (.int x2), .val (.long x3), .second, .val (.long x5), .second, .val (.int x7), .unset] [(.int (x5.toInt32))])
      refine own_go (fun _ => XS.istore X.here hx rfl (hb hby d15_57) rfl rfl) ?_
      show own_WP p e below _ T (mkF m 59 #[.val (.ref o0), .val (.int x1), .val (.int x2), .val (.long x3), .second, .val (.long x5), .second, .val (.int (x5.toInt32)), .unset] [])
      refine own_go (fun _ => XS.iloadN X.here hx rfl (hb hby d15_59) rfl) ?_
      show own_WP p e below _ T (mkF m 60 #[.val (.ref o0), .val (.int x1), .val (.int x2), .val (.long x3), .second, .val (.long x5), .second, .val (.int (x5.toInt32)), .unset] [(.int x2)])
      refine own_go (fun _ => XS.istore X.here hx rfl (hb hby d15_60) rfl rfl) ?_
      show own_WP p e below _ T (mkF m 62 #[.val (.ref o0), .val (.int x1), .val (.int x2), .val (.long x3), .second, .val (.long x5), .second, .val (.int (x5.toInt32)), .val (.int x2)] [])
      exact b15_62 hw C Z0 rr hP 5 X e0 N K o_o0_qhd o_qhd_qtw o_qtw_qre o_qre_qai g_o0 E_o0 Fo0_c Fo0_d Fo0_e Fo0_12 V_qhd V_qtw V_qre V_qai x1 x2 x3 x5 (x5.toInt32) x2 hv
    · replace hv := (if_neg h9).symm.trans hv
      refine own_go (fun _ => XS.icmpNo X.here hx rfl (hb hby d15_9) rfl (XT.ii_eq_f h9)) ?_
      show own_WP p e below _ T (mkF m 12 #[.val (.ref o0), .val (.int x1), .val (.int x2), .val (.long x3), .second, .val (.long x5), .second, .val (.int x7), .unset] [])
      refine own_go (fun _ => XS.lload X.here hx rfl (hb hby d15_12) rfl) ?_
      show own_WP p e below _ T (mkF m 14 _ [(.long x5)])
      refine own_go (fun _ => XS.aloadN X.here hx rfl (hb hby d15_14) rfl rfl) ?_
      show own_WP p e below _ T (mkF m 15 _ [(.ref o0), (.long x5)])
      obtain ⟨T10, X10, e10, st10⟩ := getF X hx hZ hown (host := "") (Or.inl (hw _ (List.mem_of_getElem? (i := 36) rfl))) Via.refl e0 Fo0_e (g := (mkF m 15 #[.val (.ref o0), .val (.int x1), .val (.int x2), .val (.long x3), .second, .val (.long x5), .second, .val (.int x7), .unset] [(.ref o0), (.long x5)])) rfl rfl (hb hby d15_15)
      refine own_go st10 ?_
      clear st10 X e0
      show own_WP p e below _ T10 (mkF m 18 _ [(.ref qre), (.long x5)])
      refine own_go (fun _ => XS.aloadN X10.here hx rfl (hb hby d15_18) rfl rfl) ?_
      show own_WP p e below _ T10 (mkF m 19 _ [(.ref o0), (.ref qre), (.long x5)])
      obtain ⟨T11, X11, e11, st11⟩ := getF X10 hx hZ hown (host := "") (Or.inl (hw _ (List.mem_of_getElem? (i := 55) rfl))) Via.refl e10 Fo0_12 (g := (mkF m 19 #[.val (.ref o0), .val (.int x1), .val (.int x2), .val (.long x3), .second, .val (.long x5), .second, .val (.int x7), .unset] [(.ref o0), (.ref qre), (.long x5)])) rfl rfl (hb hby d15_19)
      refine own_go st11 ?_
      clear st11 X10 e10
      show own_WP p e below _ T11 (mkF m 22 _ [(.ref qai), (.ref qre), (.long x5)])
      refine own_go (fun _ => XS.iload X11.here hx rfl (hb hby d15_22) rfl) ?_
      show own_WP p e below _ T11 (mkF m 24 _ [(.int x7), (.ref qai), (.ref qre), (.long x5)])
      obtain ⟨w12, hg12, hv⟩ := own_bind hv
      refine own_go (own_iaload X11 C e11 V_qai hg12 (hb hby d15_24)) ?_
      show own_WP p e below _ T11 (mkF m 25 _ [(.int w12), (.ref qre), (.long x5)])
      obtain ⟨w13, hg13, hv⟩ := own_bind hv
      refine own_go (own_iaload X11 C e11 V_qre hg13 (hb hby d15_25)) ?_
      show own_WP p e below _ T11 (mkF m 26 #[.val (.ref o0), .val (.int x1), .val (.int x2), .val (.long x3), .second, .val (.long x5), .second, .val (.int x7), .unset] [(.int w13), (.long x5)])
      refine own_go (fun _ => XS.i2l X11.here hx rfl (hb hby d15_26) rfl) ?_
      show own_WP p e below _ T11 (mkF m 27 #[.val (.ref o0), .val (.int x1), .val (.int x2), .val (.long x3), .second, .val (.long x5), .second, .val (.int x7), .unset] [(.long (w13.toInt64)), (.long x5)])
      obtain ⟨T14, v14, L14, X14, ⟨rfl, rfl, e14⟩, st14⟩ := own_callS X11 C (rm16 l Z a0 hw x5 (w13.toInt64) h) (hw _ (List.mem_of_getElem? (i := 133) rfl)) (hw _ (List.mem_of_getElem? (i := 134) rfl)) (hw _ (List.mem_of_getElem? (i := 26) rfl)) (hw _ (List.mem_of_getElem? (i := 135) rfl)) (by decide) e11 (W := 0) (pc := 27) (Ls := #[.val (.ref o0), .val (.int x1), .val (.int x2), .val (.long x3), .second, .val (.long x5), .second, .val (.int x7), .unset]) rfl (lenOf pd16 rfl) (rest := []) (stk := [(.long (w13.toInt64)), (.long x5)]) rfl (Nat.le_of_ble_eq_true rfl) (hb hby d15_27) (by decide) (by decide) (by decide) (by decide)
      rw [List.append_nil] at X14
      refine own_go st14 ?_
      clear st14 X11 e11
      show own_WP p e below _ T14 (mkF m 30 #[.val (.ref o0), .val (.int x1), .val (.int x2), .val (.long x3), .second, .val (.long x5), .second, .val (.int x7), .unset] [(.long (f16_0 x5 (w13.toInt64)))])
      refine own_go (fun _ => XS.lstore X14.here hx rfl (hb hby d15_30) rfl rfl) ?_
      show own_WP p e below _ T14 (mkF m 32 #[.val (.ref o0), .val (.int x1), .val (.int x2), .val (.long x3), .second, .val (.long (f16_0 x5 (w13.toInt64))), .second, .val (.int x7), .unset] [])
      refine own_go (fun _ => XS.aloadN X14.here hx rfl (hb hby d15_32) rfl rfl) ?_
      show own_WP p e below _ T14 (mkF m 33 _ [(.ref o0)])
      obtain ⟨T15, X15, e15, st15⟩ := getF X14 hx hZ hown (host := "") (Or.inl (hw _ (List.mem_of_getElem? (i := 32) rfl))) Via.refl e14 Fo0_c (g := (mkF m 33 #[.val (.ref o0), .val (.int x1), .val (.int x2), .val (.long x3), .second, .val (.long (f16_0 x5 (w13.toInt64))), .second, .val (.int x7), .unset] [(.ref o0)])) rfl rfl (hb hby d15_33)
      refine own_go st15 ?_
      clear st15 X14 e14
      show own_WP p e below _ T15 (mkF m 36 _ [(.ref qhd)])
      refine own_go (fun _ => XS.aloadN X15.here hx rfl (hb hby d15_36) rfl rfl) ?_
      show own_WP p e below _ T15 (mkF m 37 _ [(.ref o0), (.ref qhd)])
      obtain ⟨T16, X16, e16, st16⟩ := getF X15 hx hZ hown (host := "") (Or.inl (hw _ (List.mem_of_getElem? (i := 34) rfl))) Via.refl e15 Fo0_d (g := (mkF m 37 #[.val (.ref o0), .val (.int x1), .val (.int x2), .val (.long x3), .second, .val (.long (f16_0 x5 (w13.toInt64))), .second, .val (.int x7), .unset] [(.ref o0), (.ref qhd)])) rfl rfl (hb hby d15_37)
      refine own_go st16 ?_
      clear st16 X15 e15
      show own_WP p e below _ T16 (mkF m 40 _ [(.ref qtw), (.ref qhd)])
      refine own_go (fun _ => XS.aloadN X16.here hx rfl (hb hby d15_40) rfl rfl) ?_
      show own_WP p e below _ T16 (mkF m 41 _ [(.ref o0), (.ref qtw), (.ref qhd)])
      obtain ⟨T17, X17, e17, st17⟩ := getF X16 hx hZ hown (host := "") (Or.inl (hw _ (List.mem_of_getElem? (i := 55) rfl))) Via.refl e16 Fo0_12 (g := (mkF m 41 #[.val (.ref o0), .val (.int x1), .val (.int x2), .val (.long x3), .second, .val (.long (f16_0 x5 (w13.toInt64))), .second, .val (.int x7), .unset] [(.ref o0), (.ref qtw), (.ref qhd)])) rfl rfl (hb hby d15_41)
      refine own_go st17 ?_
      clear st17 X16 e16
      show own_WP p e below _ T17 (mkF m 44 _ [(.ref qai), (.ref qtw), (.ref qhd)])
      refine own_go (fun _ => XS.iload X17.here hx rfl (hb hby d15_44) rfl) ?_
      show own_WP p e below _ T17 (mkF m 46 _ [(.int x7), (.ref qai), (.ref qtw), (.ref qhd)])
      obtain ⟨w18, hg18, hv⟩ := own_bind hv
      refine own_go (own_iaload X17 C e17 V_qai hg18 (hb hby d15_46)) ?_
      show own_WP p e below _ T17 (mkF m 47 #[.val (.ref o0), .val (.int x1), .val (.int x2), .val (.long x3), .second, .val (.long (f16_0 x5 (w13.toInt64))), .second, .val (.int x7), .unset] [(.int w18), (.ref qtw), (.ref qhd)])
      obtain ⟨w19, hg19, hv⟩ := own_bind hv
      refine own_go (own_iaload X17 C e17 V_qtw hg19 (hb hby d15_47)) ?_
      show own_WP p e below _ T17 (mkF m 48 _ [(.int w19), (.ref qhd)])
      obtain ⟨w20, hg20, hv⟩ := own_bind hv
      refine own_go (own_iaload X17 C e17 V_qhd hg20 (hb hby d15_48)) ?_
      show own_WP p e below _ T17 (mkF m 49 #[.val (.ref o0), .val (.int x1), .val (.int x2), .val (.long x3), .second, .val (.long (f16_0 x5 (w13.toInt64))), .second, .val (.int x7), .unset] [(.int w20)])
      refine own_go (fun _ => XS.istore X17.here hx rfl (hb hby d15_49) rfl rfl) ?_
      show own_WP p e below _ T17 (mkF m 51 #[.val (.ref o0), .val (.int x1), .val (.int x2), .val (.long x3), .second, .val (.long (f16_0 x5 (w13.toInt64))), .second, .val (.int w20), .unset] [])
      refine own_go (fun _ => XS.goto X17.here hx rfl (pc0 := 51) (pc' := 6) rfl (hb hby d15_51) (by decide) (by decide)) ?_
      exact ih X17 e17 N K o_o0_qhd o_qhd_qtw o_qtw_qre o_qre_qai g_o0 E_o0 Fo0_c Fo0_d Fo0_e Fo0_12 V_qhd V_qtw V_qre V_qai x1 x2 x3 (f16_0 x5 (w13.toInt64)) w20 hv
def f15_0 (lhd : List Int32) (ltw : List Int32) (lai : List Int32) (v_qre : List Int32) (x1 : Int32) (x2 : Int32) (x3 : Int64) : Option (Int32 × (List Int32)) := (f15_6 5 lhd ltw lai v_qre x1 x2 x3 x2)
set_option maxRecDepth 65536 in
set_option maxHeartbeats 40000000 in
theorem b15_0 {p : Program} {l : Launch} {e : Env} {s : State} {m : MethodId} {args : Array Value} {below : List Frame} {meth : Method} {c : Code} {Z : State} {a0 : Array Value} {h0 : Heap} {n0 : Nat} {P : Option Value → Heap → List Loc → Prop} (hw : ∀ d ∈ tables_1, d.before a0 Z = true) (C : own_Ctx p s m meth c Z (⟨"com/example/gridfare/gridfare/engine/ResidualNetwork", "sendAlongPath", "(IIJ)I"⟩ : MethodName) prog_42_method_8_code 9 (some .int)) (Z0 : n0 ≤ h0.size) {o0 : Nat} {qhd : Nat} {qtw : Nat} {qre : Nat} {qai : Nat} {lhd : List Int32} {ltw : List Int32} {lai : List Int32} (rr : Int32 × (List Int32)) (hP : ∀ v h L, Fr n0 L → Keep h0 h [qre] → E15 Z h0 o0 qhd qtw qre qai lhd ltw lai rr v h → P v h L)
    {T : State} {locs : List Loc} {h : Heap} {v_qre : List Int32} (X : Stand p l e rmR15 s m args below meth c T locs 0 0) (e0 : T.heap = h) (N : Fr n0 locs) (K : Keep h0 h [qre]) (o_o0_qhd : o0 < qhd) (o_qhd_qtw : qhd < qtw) (o_qtw_qre : qtw < qre) (o_qre_qai : qre < qai) (g_o0 : n0 ≤ o0) (E_o0 : Exa Z h o0 "com/example/gridfare/gridfare/engine/ResidualNetwork") (Fo0_c : Fld Z h o0 "com/example/gridfare/gridfare/engine/ResidualNetwork" "head" "[I" (.ref qhd)) (Fo0_d : Fld Z h o0 "com/example/gridfare/gridfare/engine/ResidualNetwork" "twin" "[I" (.ref qtw)) (Fo0_e : Fld Z h o0 "com/example/gridfare/gridfare/engine/ResidualNetwork" "residual" "[I" (.ref qre)) (Fo0_12 : Fld Z h o0 "com/example/gridfare/gridfare/engine/ResidualNetwork" "arcInto" "[I" (.ref qai)) (V_qhd : own_AI Z h qhd .int lhd) (V_qtw : own_AI Z h qtw .int ltw) (V_qre : own_AI Z h qre .int v_qre) (V_qai : own_AI Z h qai .int lai) (x1 : Int32) (x2 : Int32) (x3 : Int64) (hv : f15_0 lhd ltw lai v_qre x1 x2 x3 = some rr) :
    own_WP p e below (own_Q s P rmR15.cells rmR15.slots) T (mkF m 0 #[.val (.ref o0), .val (.int x1), .val (.int x2), .val (.long x3), .second, .unset, .unset, .unset, .unset] []) := by
  obtain ⟨hx, hZ, hby, hml, hown, hnm, hret, hlk⟩ := id C
  replace hown : s.vm.findClass "com/example/gridfare/gridfare/engine/ResidualNetwork" = some m.cls := hown
  unfold f15_0 at hv
  show own_WP p e below _ T (mkF m 0 #[.val (.ref o0), .val (.int x1), .val (.int x2), .val (.long x3), .second, .unset, .unset, .unset, .unset] [])
  refine own_go (fun _ => XS.lloadN X.here hx rfl (hb hby d15_0) rfl) ?_
  show own_WP p e below _ T (mkF m 1 #[.val (.ref o0), .val (.int x1), .val (.int x2), .val (.long x3), .second, .unset, .unset, .unset, .unset] [(.long x3)])
  refine own_go (fun _ => XS.lstore X.here hx rfl (hb hby d15_1) rfl rfl) ?_
  show own_WP p e below _ T (mkF m 3 #[.val (.ref o0), .val (.int x1), .val (.int x2), .val (.long x3), .second, .val (.long x3), .second, .unset, .unset] [])
  refine own_go (fun _ => XS.iloadN X.here hx rfl (hb hby d15_3) rfl) ?_
  show own_WP p e below _ T (mkF m 4 #[.val (.ref o0), .val (.int x1), .val (.int x2), .val (.long x3), .second, .val (.long x3), .second, .unset, .unset] [(.int x2)])
  refine own_go (fun _ => XS.istore X.here hx rfl (hb hby d15_4) rfl rfl) ?_
  show own_WP p e below _ T (mkF m 6 #[.val (.ref o0), .val (.int x1), .val (.int x2), .val (.long x3), .second, .val (.long x3), .second, .val (.int x2), .unset] [])
  exact b15_6 hw C Z0 rr hP 5 X e0 N K o_o0_qhd o_qhd_qtw o_qtw_qre o_qre_qai g_o0 E_o0 Fo0_c Fo0_d Fo0_e Fo0_12 V_qhd V_qtw V_qre V_qai x1 x2 x3 x3 x2 hv
theorem ef15 (m : MethodId) (o0 : Nat) (x1 : Int32) (x2 : Int32) (x3 : Int64) : entryFrame m #[(.ref o0), (.int x1), (.int x2), (.long x3)] 9 = (mkF m 0 #[.val (.ref o0), .val (.int x1), .val (.int x2), .val (.long x3), .second, .unset, .unset, .unset, .unset] []) := by first | (simp [entryFrame, mkF, argsToLocals, Value.category]; done) | rfl
theorem pd15 : parseMethodDescriptor "(IIJ)I" = some ⟨[.int, .int, .long], some .int⟩ := by decide +kernel
theorem pn15 : plainFor (⟨"com/example/gridfare/gridfare/engine/ResidualNetwork", "sendAlongPath", "(IIJ)I"⟩ : MethodName) = true := plainFor_of_name (by first | (simp [plainName, overriddenIn]; done) | decide +kernel)
theorem rm15 (l : Launch) (Z : State) (a0 : Array Value) (hw : ∀ d ∈ tables_1, d.before a0 Z = true) (n0 : Nat) (h0 : Heap) (Z0 : n0 ≤ h0.size) {o0 : Nat} {qhd : Nat} {qtw : Nat} {qre : Nat} {qai : Nat} {lhd : List Int32} {ltw : List Int32} {lai : List Int32} {v_qre : List Int32} (o_o0_qhd : o0 < qhd) (o_qhd_qtw : qhd < qtw) (o_qtw_qre : qtw < qre) (o_qre_qai : qre < qai) (g_o0 : n0 ≤ o0) (E_o0 : Exa Z h0 o0 "com/example/gridfare/gridfare/engine/ResidualNetwork") (Fo0_c : Fld Z h0 o0 "com/example/gridfare/gridfare/engine/ResidualNetwork" "head" "[I" (.ref qhd)) (Fo0_d : Fld Z h0 o0 "com/example/gridfare/gridfare/engine/ResidualNetwork" "twin" "[I" (.ref qtw)) (Fo0_e : Fld Z h0 o0 "com/example/gridfare/gridfare/engine/ResidualNetwork" "residual" "[I" (.ref qre)) (Fo0_12 : Fld Z h0 o0 "com/example/gridfare/gridfare/engine/ResidualNetwork" "arcInto" "[I" (.ref qai)) (V_qhd : own_AI Z h0 qhd .int lhd) (V_qtw : own_AI Z h0 qtw .int ltw) (V_qre : own_AI Z h0 qre .int v_qre) (V_qai : own_AI Z h0 qai .int lai) (x1 : Int32) (x2 : Int32) (x3 : Int64)  (rr : Int32 × (List Int32)) (hf : f15_0 lhd ltw lai v_qre x1 x2 x3 = some rr) :
    own_Met l Z (⟨"com/example/gridfare/gridfare/engine/ResidualNetwork", "sendAlongPath", "(IIJ)I"⟩ : MethodName) prog_42_method_8_code 9 (some .int) [] rmR15 #[(.ref o0), (.int x1), (.int x2), (.long x3)] h0 (fun v h L => Fr n0 L ∧ Keep h0 h [qre] ∧ E15 Z h0 o0 qhd qtw qre qai lhd ltw lai rr v h) := by
  refine own_body pn15 ?_
  intro p e s m below meth c s₁ C X e0
  exact own_cast (ef15 m o0 x1 x2 x3) (b15_0 hw C Z0 rr (fun v h L a b c => ⟨a, b, c⟩) X e0 (Fr.nil n0) (Keep.refl h0 [qre]) o_o0_qhd o_qhd_qtw o_qtw_qre o_qre_qai g_o0 E_o0 Fo0_c Fo0_d Fo0_e Fo0_12 V_qhd V_qtw V_qre V_qai x1 x2 x3 hf)
theorem d14_0 : decode prog_42_method_7_code 0 = .ok (.aload_n 0, 1) := by decide +kernel
theorem d14_1 : decode prog_42_method_7_code 1 = .ok (.getfield 23, 3) := by decide +kernel
theorem d14_4 : decode prog_42_method_7_code 4 = .ok (.iconst 0, 1) := by decide +kernel
theorem d14_5 : decode prog_42_method_7_code 5 = .ok (.aload_n 0, 1) := by decide +kernel
theorem d14_6 : decode prog_42_method_7_code 6 = .ok (.getfield 95, 3) := by decide +kernel
theorem d14_9 : decode prog_42_method_7_code 9 = .ok (.iconst 0, 1) := by decide +kernel
theorem d14_10 : decode prog_42_method_7_code 10 = .ok (.aload_n 0, 1) := by decide +kernel
theorem d14_11 : decode prog_42_method_7_code 11 = .ok (.getfield 7, 3) := by decide +kernel
theorem d14_14 : decode prog_42_method_7_code 14 = .ok (.invokestatic 146, 3) := by decide +kernel
theorem d14_17 : decode prog_42_method_7_code 17 = .ok (.lconst 0, 1) := by decide +kernel
theorem d14_18 : decode prog_42_method_7_code 18 = .ok (.lstore 5, 2) := by decide +kernel
theorem d14_20 : decode prog_42_method_7_code 20 = .ok (.iload_n 1, 1) := by decide +kernel
theorem d14_21 : decode prog_42_method_7_code 21 = .ok (.istore 7, 2) := by decide +kernel
theorem d14_23 : decode prog_42_method_7_code 23 = .ok (.lload 5, 2) := by decide +kernel
theorem d14_25 : decode prog_42_method_7_code 25 = .ok (.lload_n 3, 1) := by decide +kernel
theorem d14_26 : decode prog_42_method_7_code 26 = .ok (.lcmp, 1) := by decide +kernel
theorem d14_27 : decode prog_42_method_7_code 27 = .ok (.ifCond .ge 179, 3) := by decide +kernel
theorem d14_30 : decode prog_42_method_7_code 30 = .ok (.iload 7, 2) := by decide +kernel
theorem d14_32 : decode prog_42_method_7_code 32 = .ok (.iload_n 2, 1) := by decide +kernel
theorem d14_33 : decode prog_42_method_7_code 33 = .ok (.if_icmp .ne 25, 3) := by decide +kernel
theorem d14_36 : decode prog_42_method_7_code 36 = .ok (.lload 5, 2) := by decide +kernel
theorem d14_38 : decode prog_42_method_7_code 38 = .ok (.aload_n 0, 1) := by decide +kernel
theorem d14_39 : decode prog_42_method_7_code 39 = .ok (.iload_n 1, 1) := by decide +kernel
theorem d14_40 : decode prog_42_method_7_code 40 = .ok (.iload_n 2, 1) := by decide +kernel
theorem d14_41 : decode prog_42_method_7_code 41 = .ok (.lload_n 3, 1) := by decide +kernel
theorem d14_42 : decode prog_42_method_7_code 42 = .ok (.lload 5, 2) := by decide +kernel
theorem d14_44 : decode prog_42_method_7_code 44 = .ok (.lsub, 1) := by decide +kernel
theorem d14_45 : decode prog_42_method_7_code 45 = .ok (.invokevirtual 152, 3) := by decide +kernel
theorem d14_48 : decode prog_42_method_7_code 48 = .ok (.i2l, 1) := by decide +kernel
theorem d14_49 : decode prog_42_method_7_code 49 = .ok (.ladd, 1) := by decide +kernel
theorem d14_50 : decode prog_42_method_7_code 50 = .ok (.lstore 5, 2) := by decide +kernel
theorem d14_52 : decode prog_42_method_7_code 52 = .ok (.iload_n 1, 1) := by decide +kernel
theorem d14_53 : decode prog_42_method_7_code 53 = .ok (.istore 7, 2) := by decide +kernel
theorem d14_55 : decode prog_42_method_7_code 55 = .ok (.goto (-32), 3) := by decide +kernel
theorem d14_58 : decode prog_42_method_7_code 58 = .ok (.aload_n 0, 1) := by decide +kernel
theorem d14_59 : decode prog_42_method_7_code 59 = .ok (.getfield 23, 3) := by decide +kernel
theorem d14_62 : decode prog_42_method_7_code 62 = .ok (.iload 7, 2) := by decide +kernel
theorem d14_64 : decode prog_42_method_7_code 64 = .ok (.iconst 1, 1) := by decide +kernel
theorem d14_65 : decode prog_42_method_7_code 65 = .ok (.iadd, 1) := by decide +kernel
theorem d14_66 : decode prog_42_method_7_code 66 = .ok (.iaload, 1) := by decide +kernel
theorem d14_67 : decode prog_42_method_7_code 67 = .ok (.istore 8, 2) := by decide +kernel
theorem d14_69 : decode prog_42_method_7_code 69 = .ok (.aload_n 0, 1) := by decide +kernel
theorem d14_70 : decode prog_42_method_7_code 70 = .ok (.getfield 95, 3) := by decide +kernel
theorem d14_73 : decode prog_42_method_7_code 73 = .ok (.iload 7, 2) := by decide +kernel
theorem d14_75 : decode prog_42_method_7_code 75 = .ok (.iaload, 1) := by decide +kernel
theorem d14_76 : decode prog_42_method_7_code 76 = .ok (.istore 9, 2) := by decide +kernel
theorem d14_78 : decode prog_42_method_7_code 78 = .ok (.iload 9, 2) := by decide +kernel
theorem d14_80 : decode prog_42_method_7_code 80 = .ok (.iload 8, 2) := by decide +kernel
theorem d14_82 : decode prog_42_method_7_code 82 = .ok (.if_icmp .ge 43, 3) := by decide +kernel
theorem d14_85 : decode prog_42_method_7_code 85 = .ok (.aload_n 0, 1) := by decide +kernel
theorem d14_86 : decode prog_42_method_7_code 86 = .ok (.getfield 36, 3) := by decide +kernel
theorem d14_89 : decode prog_42_method_7_code 89 = .ok (.iload 9, 2) := by decide +kernel
theorem d14_91 : decode prog_42_method_7_code 91 = .ok (.iaload, 1) := by decide +kernel
theorem d14_92 : decode prog_42_method_7_code 92 = .ok (.ifCond .le 27, 3) := by decide +kernel
theorem d14_95 : decode prog_42_method_7_code 95 = .ok (.aload_n 0, 1) := by decide +kernel
theorem d14_96 : decode prog_42_method_7_code 96 = .ok (.getfield 49, 3) := by decide +kernel
theorem d14_99 : decode prog_42_method_7_code 99 = .ok (.aload_n 0, 1) := by decide +kernel
theorem d14_100 : decode prog_42_method_7_code 100 = .ok (.getfield 30, 3) := by decide +kernel
theorem d14_103 : decode prog_42_method_7_code 103 = .ok (.iload 9, 2) := by decide +kernel
theorem d14_105 : decode prog_42_method_7_code 105 = .ok (.iaload, 1) := by decide +kernel
theorem d14_106 : decode prog_42_method_7_code 106 = .ok (.iaload, 1) := by decide +kernel
theorem d14_107 : decode prog_42_method_7_code 107 = .ok (.aload_n 0, 1) := by decide +kernel
theorem d14_108 : decode prog_42_method_7_code 108 = .ok (.getfield 49, 3) := by decide +kernel
theorem d14_111 : decode prog_42_method_7_code 111 = .ok (.iload 7, 2) := by decide +kernel
theorem d14_113 : decode prog_42_method_7_code 113 = .ok (.iaload, 1) := by decide +kernel
theorem d14_114 : decode prog_42_method_7_code 114 = .ok (.iconst 1, 1) := by decide +kernel
theorem d14_115 : decode prog_42_method_7_code 115 = .ok (.iadd, 1) := by decide +kernel
theorem d14_116 : decode prog_42_method_7_code 116 = .ok (.if_icmp .eq 9, 3) := by decide +kernel
theorem d14_119 : decode prog_42_method_7_code 119 = .ok (.iinc 9 1, 3) := by decide +kernel
theorem d14_122 : decode prog_42_method_7_code 122 = .ok (.goto (-44), 3) := by decide +kernel
theorem d14_125 : decode prog_42_method_7_code 125 = .ok (.aload_n 0, 1) := by decide +kernel
theorem d14_126 : decode prog_42_method_7_code 126 = .ok (.getfield 95, 3) := by decide +kernel
theorem d14_129 : decode prog_42_method_7_code 129 = .ok (.iload 7, 2) := by decide +kernel
theorem d14_131 : decode prog_42_method_7_code 131 = .ok (.iload 9, 2) := by decide +kernel
theorem d14_133 : decode prog_42_method_7_code 133 = .ok (.iastore, 1) := by decide +kernel
theorem d14_134 : decode prog_42_method_7_code 134 = .ok (.iload 9, 2) := by decide +kernel
theorem d14_136 : decode prog_42_method_7_code 136 = .ok (.iload 8, 2) := by decide +kernel
theorem d14_138 : decode prog_42_method_7_code 138 = .ok (.if_icmp .ge 29, 3) := by decide +kernel
theorem d14_141 : decode prog_42_method_7_code 141 = .ok (.aload_n 0, 1) := by decide +kernel
theorem d14_142 : decode prog_42_method_7_code 142 = .ok (.getfield 55, 3) := by decide +kernel
theorem d14_145 : decode prog_42_method_7_code 145 = .ok (.aload_n 0, 1) := by decide +kernel
theorem d14_146 : decode prog_42_method_7_code 146 = .ok (.getfield 30, 3) := by decide +kernel
theorem d14_149 : decode prog_42_method_7_code 149 = .ok (.iload 9, 2) := by decide +kernel
theorem d14_151 : decode prog_42_method_7_code 151 = .ok (.iaload, 1) := by decide +kernel
theorem d14_152 : decode prog_42_method_7_code 152 = .ok (.iload 9, 2) := by decide +kernel
theorem d14_154 : decode prog_42_method_7_code 154 = .ok (.iastore, 1) := by decide +kernel
theorem d14_155 : decode prog_42_method_7_code 155 = .ok (.aload_n 0, 1) := by decide +kernel
theorem d14_156 : decode prog_42_method_7_code 156 = .ok (.getfield 30, 3) := by decide +kernel
theorem d14_159 : decode prog_42_method_7_code 159 = .ok (.iload 9, 2) := by decide +kernel
theorem d14_161 : decode prog_42_method_7_code 161 = .ok (.iaload, 1) := by decide +kernel
theorem d14_162 : decode prog_42_method_7_code 162 = .ok (.istore 7, 2) := by decide +kernel
theorem d14_164 : decode prog_42_method_7_code 164 = .ok (.goto 39, 3) := by decide +kernel
theorem d14_167 : decode prog_42_method_7_code 167 = .ok (.iload 7, 2) := by decide +kernel
theorem d14_169 : decode prog_42_method_7_code 169 = .ok (.iload_n 1, 1) := by decide +kernel
theorem d14_170 : decode prog_42_method_7_code 170 = .ok (.if_icmp .ne 6, 3) := by decide +kernel
theorem d14_173 : decode prog_42_method_7_code 173 = .ok (.goto 33, 3) := by decide +kernel
theorem d14_176 : decode prog_42_method_7_code 176 = .ok (.aload_n 0, 1) := by decide +kernel
theorem d14_177 : decode prog_42_method_7_code 177 = .ok (.getfield 49, 3) := by decide +kernel
theorem d14_180 : decode prog_42_method_7_code 180 = .ok (.iload 7, 2) := by decide +kernel
theorem d14_182 : decode prog_42_method_7_code 182 = .ok (.iconst (-1), 1) := by decide +kernel
theorem d14_183 : decode prog_42_method_7_code 183 = .ok (.iastore, 1) := by decide +kernel
theorem d14_184 : decode prog_42_method_7_code 184 = .ok (.aload_n 0, 1) := by decide +kernel
theorem d14_185 : decode prog_42_method_7_code 185 = .ok (.getfield 30, 3) := by decide +kernel
theorem d14_188 : decode prog_42_method_7_code 188 = .ok (.aload_n 0, 1) := by decide +kernel
theorem d14_189 : decode prog_42_method_7_code 189 = .ok (.getfield 33, 3) := by decide +kernel
theorem d14_192 : decode prog_42_method_7_code 192 = .ok (.aload_n 0, 1) := by decide +kernel
theorem d14_193 : decode prog_42_method_7_code 193 = .ok (.getfield 55, 3) := by decide +kernel
theorem d14_196 : decode prog_42_method_7_code 196 = .ok (.iload 7, 2) := by decide +kernel
theorem d14_198 : decode prog_42_method_7_code 198 = .ok (.iaload, 1) := by decide +kernel
theorem d14_199 : decode prog_42_method_7_code 199 = .ok (.iaload, 1) := by decide +kernel
theorem d14_200 : decode prog_42_method_7_code 200 = .ok (.iaload, 1) := by decide +kernel
theorem d14_201 : decode prog_42_method_7_code 201 = .ok (.istore 7, 2) := by decide +kernel
theorem d14_203 : decode prog_42_method_7_code 203 = .ok (.goto (-180), 3) := by decide +kernel
theorem d14_206 : decode prog_42_method_7_code 206 = .ok (.lload 5, 2) := by decide +kernel
theorem d14_208 : decode prog_42_method_7_code 208 = .ok (.lreturn, 1) := by decide +kernel
def rmR14 : Room := { frames := 2, cells := 0, slots := 0, locals := 37 }
def E14 (Z : State) (h0 : Heap) (o0 : Nat) (qfa : Nat) (qhd : Nat) (qtw : Nat) (qre : Nat) (qlv : Nat) (qai : Nat) (qca : Nat) (nn : Int32) (lfa : List Int32) (lhd : List Int32) (ltw : List Int32) (rr : Int64 × (List Int32) × (List Int32) × (List Int32) × (List Int32)) (v : Option Value) (h : Heap) : Prop := v = some (.long (rr.1)) ∧ own_AI Z h qre .int (rr.2.1) ∧ own_AI Z h qlv .int (rr.2.2.1) ∧ own_AI Z h qai .int (rr.2.2.2.1) ∧ own_AI Z h qca .int (rr.2.2.2.2)
def F14_23 : Nat → (Int32 → (List Int32) → (List Int32) → (List Int32) → (List Int32) → (List Int32) → (List Int32) → (List Int32) → Int32 → Int32 → Int64 → Int64 → Int32 → Option (Int64 × (List Int32) × (List Int32) × (List Int32) × (List Int32))) × (Int32 → (List Int32) → (List Int32) → (List Int32) → (List Int32) → (List Int32) → (List Int32) → (List Int32) → Int32 → Int32 → Int64 → Int64 → Int32 → Int32 → Int32 → Option (Int64 × (List Int32) × (List Int32) × (List Int32) × (List Int32)))
  | 0 => ((fun _ _ _ _ _ _ _ _ _ _ _ _ _ => none), (fun _ _ _ _ _ _ _ _ _ _ _ _ _ _ _ => none))
  | k + 1 => ((fun nn lfa lhd ltw v_qre v_qlv v_qai v_qca x1 x2 x3 x5 x7 => (if x5 < x3 then (if x7 = x2 then ((f15_0 lhd ltw v_qai v_qre x1 x2 (x3 - x5)).bind fun rr5 => ((F14_23 k).1 nn lfa lhd ltw (rr5.2) v_qlv v_qai v_qca x1 x2 x3 (x5 + ((rr5.1).toInt64)) x1)) else ((own_get lfa (x7 + (1 : Int32))).bind fun w7 => ((own_get v_qca x7).bind fun w9 => ((F14_23 k).2 nn lfa lhd ltw v_qre v_qlv v_qai v_qca x1 x2 x3 x5 x7 w7 w9)))) else (some (x5, v_qre, v_qlv, v_qai, v_qca)))), (fun nn lfa lhd ltw v_qre v_qlv v_qai v_qca x1 x2 x3 x5 x7 x8 x9 => (if x9 < x8 then ((own_get v_qre x9).bind fun w11 => (if (0 : Int32) < w11 then ((own_get lhd x9).bind fun w14 => ((own_get v_qlv w14).bind fun w15 => ((own_get v_qlv x7).bind fun w17 => (if w15 = (w17 + (1 : Int32)) then ((own_set v_qca x7 x9).bind fun u19 => (if x9 < x8 then ((own_get lhd x9).bind fun w22 => ((own_set v_qai w22 x9).bind fun u23 => ((own_get lhd x9).bind fun w25 => ((F14_23 k).1 nn lfa lhd ltw v_qre v_qlv u23 u19 x1 x2 x3 x5 w25)))) else (if x7 = x1 then (some (x5, v_qre, v_qlv, v_qai, u19)) else ((own_set v_qlv x7 (-1 : Int32)).bind fun u27 => ((own_get v_qai x7).bind fun w31 => ((own_get ltw w31).bind fun w32 => ((own_get lhd w32).bind fun w33 => ((F14_23 k).1 nn lfa lhd ltw v_qre u27 v_qai u19 x1 x2 x3 x5 w33)))))))) else ((F14_23 k).2 nn lfa lhd ltw v_qre v_qlv v_qai v_qca x1 x2 x3 x5 x7 x8 (x9 + (1 : Int32))))))) else ((F14_23 k).2 nn lfa lhd ltw v_qre v_qlv v_qai v_qca x1 x2 x3 x5 x7 x8 (x9 + (1 : Int32))))) else ((own_set v_qca x7 x9).bind fun u35 => (if x9 < x8 then ((own_get lhd x9).bind fun w38 => ((own_set v_qai w38 x9).bind fun u39 => ((own_get lhd x9).bind fun w41 => ((F14_23 k).1 nn lfa lhd ltw v_qre v_qlv u39 u35 x1 x2 x3 x5 w41)))) else (if x7 = x1 then (some (x5, v_qre, v_qlv, v_qai, u35)) else ((own_set v_qlv x7 (-1 : Int32)).bind fun u43 => ((own_get v_qai x7).bind fun w47 => ((own_get ltw w47).bind fun w48 => ((own_get lhd w48).bind fun w49 => ((F14_23 k).1 nn lfa lhd ltw v_qre u43 v_qai u35 x1 x2 x3 x5 w49)))))))))))
set_option maxRecDepth 65536 in
set_option maxHeartbeats 40000000 in
theorem bG14_23 {p : Program} {l : Launch} {e : Env} {s : State} {m : MethodId} {args : Array Value} {below : List Frame} {meth : Method} {c : Code} {Z : State} {a0 : Array Value} {h0 : Heap} {n0 : Nat} {P : Option Value → Heap → List Loc → Prop} (hw : ∀ d ∈ tables_1, d.before a0 Z = true) (C : own_Ctx p s m meth c Z (⟨"com/example/gridfare/gridfare/engine/ResidualNetwork", "sendBlockingFlow", "(IIJ)J"⟩ : MethodName) prog_42_method_7_code 10 (some .long)) (Z0 : n0 ≤ h0.size) {o0 : Nat} {qfa : Nat} {qhd : Nat} {qtw : Nat} {qre : Nat} {qlv : Nat} {qai : Nat} {qca : Nat} {nn : Int32} {lfa : List Int32} {lhd : List Int32} {ltw : List Int32} (rr : Int64 × (List Int32) × (List Int32) × (List Int32) × (List Int32)) (hP : ∀ v h L, Fr n0 L → Keep h0 h [qre, qlv, qai, qca] → E14 Z h0 o0 qfa qhd qtw qre qlv qai qca nn lfa lhd ltw rr v h → P v h L) (k : Nat) :
    (∀ {T : State} {locs : List Loc} {h : Heap} {v_qre : List Int32} {v_qlv : List Int32} {v_qai : List Int32} {v_qca : List Int32} (X : Stand p l e rmR14 s m args below meth c T locs 0 0) (e0 : T.heap = h) (N : Fr n0 locs) (K : Keep h0 h [qre, qlv, qai, qca]) (o_o0_qfa : o0 < qfa) (o_qfa_qhd : qfa < qhd) (o_qhd_qtw : qhd < qtw) (o_qtw_qre : qtw < qre) (o_qre_qlv : qre < qlv) (o_qlv_qai : qlv < qai) (o_qai_qca : qai < qca) (g_o0 : n0 ≤ o0) (E_o0 : Exa Z h o0 "com/example/gridfare/gridfare/engine/ResidualNetwork") (Fo0_8 : Fld Z h o0 "com/example/gridfare/gridfare/engine/ResidualNetwork" "nodes" "I" (.int nn)) (Fo0_a : Fld Z h o0 "com/example/gridfare/gridfare/engine/ResidualNetwork" "firstArc" "[I" (.ref qfa)) (Fo0_c : Fld Z h o0 "com/example/gridfare/gridfare/engine/ResidualNetwork" "head" "[I" (.ref qhd)) (Fo0_d : Fld Z h o0 "com/example/gridfare/gridfare/engine/ResidualNetwork" "twin" "[I" (.ref qtw)) (Fo0_e : Fld Z h o0 "com/example/gridfare/gridfare/engine/ResidualNetwork" "residual" "[I" (.ref qre)) (Fo0_10 : Fld Z h o0 "com/example/gridfare/gridfare/engine/ResidualNetwork" "level" "[I" (.ref qlv)) (Fo0_12 : Fld Z h o0 "com/example/gridfare/gridfare/engine/ResidualNetwork" "arcInto" "[I" (.ref qai)) (Fo0_1b : Fld Z h o0 "com/example/gridfare/gridfare/engine/ResidualNetwork" "currentArc" "[I" (.ref qca)) (V_qfa : own_AI Z h qfa .int lfa) (V_qhd : own_AI Z h qhd .int lhd) (V_qtw : own_AI Z h qtw .int ltw) (V_qre : own_AI Z h qre .int v_qre) (V_qlv : own_AI Z h qlv .int v_qlv) (V_qai : own_AI Z h qai .int v_qai) (V_qca : own_AI Z h qca .int v_qca) (x1 : Int32) (x2 : Int32) (x3 : Int64) (x5 : Int64) (x7 : Int32) (s8 : Slot) (hs8 : One s8) (s9 : Slot) (hs9 : One s9) (hv : (F14_23 k).1 nn lfa lhd ltw v_qre v_qlv v_qai v_qca x1 x2 x3 x5 x7 = some rr), own_WP p e below (own_Q s P rmR14.cells rmR14.slots) T (mkF m 23 #[.val (.ref o0), .val (.int x1), .val (.int x2), .val (.long x3), .second, .val (.long x5), .second, .val (.int x7), s8, s9] [])) ∧
    (∀ {T : State} {locs : List Loc} {h : Heap} {v_qre : List Int32} {v_qlv : List Int32} {v_qai : List Int32} {v_qca : List Int32} (X : Stand p l e rmR14 s m args below meth c T locs 0 0) (e0 : T.heap = h) (N : Fr n0 locs) (K : Keep h0 h [qre, qlv, qai, qca]) (o_o0_qfa : o0 < qfa) (o_qfa_qhd : qfa < qhd) (o_qhd_qtw : qhd < qtw) (o_qtw_qre : qtw < qre) (o_qre_qlv : qre < qlv) (o_qlv_qai : qlv < qai) (o_qai_qca : qai < qca) (g_o0 : n0 ≤ o0) (E_o0 : Exa Z h o0 "com/example/gridfare/gridfare/engine/ResidualNetwork") (Fo0_8 : Fld Z h o0 "com/example/gridfare/gridfare/engine/ResidualNetwork" "nodes" "I" (.int nn)) (Fo0_a : Fld Z h o0 "com/example/gridfare/gridfare/engine/ResidualNetwork" "firstArc" "[I" (.ref qfa)) (Fo0_c : Fld Z h o0 "com/example/gridfare/gridfare/engine/ResidualNetwork" "head" "[I" (.ref qhd)) (Fo0_d : Fld Z h o0 "com/example/gridfare/gridfare/engine/ResidualNetwork" "twin" "[I" (.ref qtw)) (Fo0_e : Fld Z h o0 "com/example/gridfare/gridfare/engine/ResidualNetwork" "residual" "[I" (.ref qre)) (Fo0_10 : Fld Z h o0 "com/example/gridfare/gridfare/engine/ResidualNetwork" "level" "[I" (.ref qlv)) (Fo0_12 : Fld Z h o0 "com/example/gridfare/gridfare/engine/ResidualNetwork" "arcInto" "[I" (.ref qai)) (Fo0_1b : Fld Z h o0 "com/example/gridfare/gridfare/engine/ResidualNetwork" "currentArc" "[I" (.ref qca)) (V_qfa : own_AI Z h qfa .int lfa) (V_qhd : own_AI Z h qhd .int lhd) (V_qtw : own_AI Z h qtw .int ltw) (V_qre : own_AI Z h qre .int v_qre) (V_qlv : own_AI Z h qlv .int v_qlv) (V_qai : own_AI Z h qai .int v_qai) (V_qca : own_AI Z h qca .int v_qca) (x1 : Int32) (x2 : Int32) (x3 : Int64) (x5 : Int64) (x7 : Int32) (x8 : Int32) (x9 : Int32) (hv : (F14_23 k).2 nn lfa lhd ltw v_qre v_qlv v_qai v_qca x1 x2 x3 x5 x7 x8 x9 = some rr), own_WP p e below (own_Q s P rmR14.cells rmR14.slots) T (mkF m 78 #[.val (.ref o0), .val (.int x1), .val (.int x2), .val (.long x3), .second, .val (.long x5), .second, .val (.int x7), .val (.int x8), .val (.int x9)] [])) := by
  obtain ⟨hx, hZ, hby, hml, hown, hnm, hret, hlk⟩ := id C
  replace hown : s.vm.findClass "com/example/gridfare/gridfare/engine/ResidualNetwork" = some m.cls := hown
  induction k with
  | zero => refine ⟨?_, ?_⟩ <;> (intros; rename_i hv; cases hv)
  | succ k ih =>
    refine ⟨?_, ?_⟩
    · intro T locs h v_qre v_qlv v_qai v_qca X e0 N K o_o0_qfa o_qfa_qhd o_qhd_qtw o_qtw_qre o_qre_qlv o_qlv_qai o_qai_qca g_o0 E_o0 Fo0_8 Fo0_a Fo0_c Fo0_d Fo0_e Fo0_10 Fo0_12 Fo0_1b V_qfa V_qhd V_qtw V_qre V_qlv V_qai V_qca x1 x2 x3 x5 x7 s8 hs8 s9 hs9 hv
      unfold F14_23 at hv
      show own_WP p e below _ T (mkF m 23 #[.val (.ref o0), .val (.int x1), .val (.int x2), .val (.long x3), .second, .val (.long x5), .second, .val (.int x7), s8, s9] [])
      refine own_go (fun _ => XS.lload X.here hx rfl (hb hby d14_23) rfl) ?_
      show own_WP p e below _ T (mkF m 25 _ [(.long x5)])
      refine own_go (fun _ => XS.lloadN X.here hx rfl (hb hby d14_25) rfl) ?_
      show own_WP p e below _ T (mkF m 26 _ [(.long x3), (.long x5)])
      refine own_go (fun _ => XT.lcmp X.here hx rfl (hb hby d14_26) rfl) ?_
      show own_WP p e below _ T (mkF m 27 _ [(.int (XT.cmpL x5 x3))])
      by_cases h27 : x5 < x3
      · replace hv := (if_pos h27).symm.trans hv
        refine own_go (fun _ => XS.ifNo X.here hx rfl (hb hby d14_27) rfl (XT.ll_ge_f h27)) ?_
        show own_WP p e below _ T (mkF m 30 #[.val (.ref o0), .val (.int x1), .val (.int x2), .val (.long x3), .second, .val (.long x5), .second, .val (.int x7), s8, s9] [])
        refine own_go (fun _ => XS.iload X.here hx rfl (hb hby d14_30) rfl) ?_
        show own_WP p e below _ T (mkF m 32 _ [(.int x7)])
        refine own_go (fun _ => XS.iloadN X.here hx rfl (hb hby d14_32) rfl) ?_
        show own_WP p e below _ T (mkF m 33 _ [(.int x2), (.int x7)])
        by_cases h33 : x7 = x2
        · replace hv := (if_pos h33).symm.trans hv
          refine own_go (fun _ => XS.icmpNo X.here hx rfl (hb hby d14_33) rfl (XT.ii_ne_f h33)) ?_
          show own_WP p e below _ T (mkF m 36 #[.val (.ref o0), .val (.int x1), .val (.int x2), .val (.long x3), .second, .val (.long x5), .second, .val (.int x7), s8, s9] [])
          refine own_go (fun _ => XS.lload X.here hx rfl (hb hby d14_36) rfl) ?_
          show own_WP p e below _ T (mkF m 38 _ [(.long x5)])
          refine own_go (fun _ => XS.aloadN X.here hx rfl (hb hby d14_38) rfl rfl) ?_
          show own_WP p e below _ T (mkF m 39 _ [(.ref o0), (.long x5)])
          refine own_go (fun _ => XS.iloadN X.here hx rfl (hb hby d14_39) rfl) ?_
          show own_WP p e below _ T (mkF m 40 _ [(.int x1), (.ref o0), (.long x5)])
          refine own_go (fun _ => XS.iloadN X.here hx rfl (hb hby d14_40) rfl) ?_
          show own_WP p e below _ T (mkF m 41 _ [(.int x2), (.int x1), (.ref o0), (.long x5)])
          refine own_go (fun _ => XS.lloadN X.here hx rfl (hb hby d14_41) rfl) ?_
          show own_WP p e below _ T (mkF m 42 _ [(.long x3), (.int x2), (.int x1), (.ref o0), (.long x5)])
          refine own_go (fun _ => XS.lload X.here hx rfl (hb hby d14_42) rfl) ?_
          show own_WP p e below _ T (mkF m 44 _ [(.long x5), (.long x3), (.int x2), (.int x1), (.ref o0), (.long x5)])
          refine own_go (fun _ => XS.lsub X.here hx rfl (hb hby d14_44) rfl) ?_
          show own_WP p e below _ T (mkF m 45 #[.val (.ref o0), .val (.int x1), .val (.int x2), .val (.long x3), .second, .val (.long x5), .second, .val (.int x7), s8, s9] [(.long (x3 - x5)), (.int x2), (.int x1), (.ref o0), (.long x5)])
          obtain ⟨rr5, hf5, hv⟩ := own_bind hv
          obtain ⟨T5, v5, L5, X5, ⟨N5, K5, Q5⟩, st5⟩ := own_callR X C (a := o0) (argsL := [(.int x1), (.int x2), (.long (x3 - x5))]) (rm15 l Z a0 hw n0 h (by have q := K.1; omega) (by omega) (by omega) (by omega) (by omega) (by omega) E_o0 Fo0_c Fo0_d Fo0_e Fo0_12 V_qhd V_qtw V_qre V_qai x1 x2 (x3 - x5) rr5 hf5) (hw _ (List.mem_of_getElem? (i := 129) rfl)) (own_selP (y2 := (⟨"com/example/gridfare/gridfare/engine/ResidualNetwork", "sendMaxFlow", "(IIJ)J"⟩ : MethodName)) rfl (hw _ (List.mem_of_getElem? (i := 117) rfl)) (hw _ (List.mem_of_getElem? (i := 130) rfl)) (hw _ (List.mem_of_getElem? (i := 131) rfl)) (by decide)) (hw _ (List.mem_of_getElem? (i := 131) rfl)) (hw _ (List.mem_of_getElem? (i := 130) rfl)) (hw _ (List.mem_of_getElem? (i := 12) rfl)) (hw _ (List.mem_of_getElem? (i := 132) rfl)) (by decide) e0 E_o0 (W := 2) (pc := 45) (Ls := #[.val (.ref o0), .val (.int x1), .val (.int x2), .val (.long x3), .second, .val (.long x5), .second, .val (.int x7), s8, s9]) rfl (lenOf pd15 rfl) (rest := [(.long x5)]) (stk := [(.long (x3 - x5)), (.int x2), (.int x1), (.ref o0), (.long x5)]) rfl (Nat.le_of_ble_eq_true rfl) (hb hby d14_45) (by decide) (by decide) (by decide) (by decide)
          replace N := Fr.app N N5
          replace E_o0 := E_o0.keep K5
          have nq : o0 ∉ ([qre] : List Addr) := (ninS (own_ne (by omega)) nin0)
          replace Fo0_8 := Fo0_8.keep K5 nq
          replace Fo0_a := Fo0_a.keep K5 nq
          replace Fo0_c := Fo0_c.keep K5 nq
          replace Fo0_d := Fo0_d.keep K5 nq
          replace Fo0_e := Fo0_e.keep K5 nq
          replace Fo0_10 := Fo0_10.keep K5 nq
          replace Fo0_12 := Fo0_12.keep K5 nq
          replace Fo0_1b := Fo0_1b.keep K5 nq
          clear nq
          replace V_qfa := V_qfa.keep K5 (ninS (own_ne (by omega)) nin0)
          replace V_qhd := V_qhd.keep K5 (ninS (own_ne (by omega)) nin0)
          replace V_qtw := V_qtw.keep K5 (ninS (own_ne (by omega)) nin0)
          replace V_qlv := V_qlv.keep K5 (ninS (own_ne (by omega)) nin0)
          replace V_qai := V_qai.keep K5 (ninS (own_ne (by omega)) nin0)
          replace V_qca := V_qca.keep K5 (ninS (own_ne (by omega)) nin0)
          clear V_qre
          obtain ⟨rfl, V_qre⟩ := Q5
          replace K := K.trans K5 (allS (Or.inl (List.mem_of_getElem? (i := 0) rfl)) all0)
          refine own_go st5 ?_
          clear st5 N5 K5 hf5 X e0
          show own_WP p e below _ T5 (mkF m 48 _ [(.int (rr5.1)), (.long x5)])
          refine own_go (fun _ => XS.i2l X5.here hx rfl (hb hby d14_48) rfl) ?_
          show own_WP p e below _ T5 (mkF m 49 _ [(.long ((rr5.1).toInt64)), (.long x5)])
          refine own_go (fun _ => XS.ladd X5.here hx rfl (hb hby d14_49) rfl) ?_
          show own_WP p e below _ T5 (mkF m 50 #[.val (.ref o0), .val (.int x1), .val (.int x2), .val (.long x3), .second, .val (.long x5), .second, .val (.int x7), s8, s9] [(.long (x5 + ((rr5.1).toInt64)))])
          refine own_go (fun _ => XS.lstore X5.here hx rfl (hb hby d14_50) rfl rfl) ?_
          show own_WP p e below _ T5 (mkF m 52 #[.val (.ref o0), .val (.int x1), .val (.int x2), .val (.long x3), .second, .val (.long (x5 + ((rr5.1).toInt64))), .second, .val (.int x7), s8, s9] [])
          refine own_go (fun _ => XS.iloadN X5.here hx rfl (hb hby d14_52) rfl) ?_
          show own_WP p e below _ T5 (mkF m 53 #[.val (.ref o0), .val (.int x1), .val (.int x2), .val (.long x3), .second, .val (.long (x5 + ((rr5.1).toInt64))), .second, .val (.int x7), s8, s9] [(.int x1)])
          refine own_go (fun _ => XS.istore X5.here hx rfl (hb hby d14_53) rfl rfl) ?_
          show own_WP p e below _ T5 (mkF m 55 #[.val (.ref o0), .val (.int x1), .val (.int x2), .val (.long x3), .second, .val (.long (x5 + ((rr5.1).toInt64))), .second, .val (.int x1), s8, s9] [])
          refine own_go (fun _ => XS.goto X5.here hx rfl (pc0 := 55) (pc' := 23) rfl (hb hby d14_55) (by decide) (by decide)) ?_
          exact ih.1 X5 (rfl : T5.heap = T5.heap) N K o_o0_qfa o_qfa_qhd o_qhd_qtw o_qtw_qre o_qre_qlv o_qlv_qai o_qai_qca g_o0 E_o0 Fo0_8 Fo0_a Fo0_c Fo0_d Fo0_e Fo0_10 Fo0_12 Fo0_1b V_qfa V_qhd V_qtw V_qre V_qlv V_qai V_qca x1 x2 x3 (x5 + ((rr5.1).toInt64)) x1 s8 hs8 s9 hs9 hv
        · replace hv := (if_neg h33).symm.trans hv
          refine own_go (fun _ => XS.icmpYes X.here hx rfl (pc0 := 33) (pc' := 58) rfl (hb hby d14_33) rfl (XT.ii_ne_t h33) (by decide) (by decide)) ?_
          show own_WP p e below _ T (mkF m 58 #[.val (.ref o0), .val (.int x1), .val (.int x2), .val (.long x3), .second, .val (.long x5), .second, .val (.int x7), s8, s9] [])
          refine own_go (fun _ => XS.aloadN X.here hx rfl (hb hby d14_58) rfl rfl) ?_
          show own_WP p e below _ T (mkF m 59 _ [(.ref o0)])
          obtain ⟨T6, X6, e6, st6⟩ := getF X hx hZ hown (host := "") (Or.inl (hw _ (List.mem_of_getElem? (i := 28) rfl))) Via.refl e0 Fo0_a (g := (mkF m 59 #[.val (.ref o0), .val (.int x1), .val (.int x2), .val (.long x3), .second, .val (.long x5), .second, .val (.int x7), s8, s9] [(.ref o0)])) rfl rfl (hb hby d14_59)
          refine own_go st6 ?_
          clear st6 X e0
          show own_WP p e below _ T6 (mkF m 62 _ [(.ref qfa)])
          refine own_go (fun _ => XS.iload X6.here hx rfl (hb hby d14_62) rfl) ?_
          show own_WP p e below _ T6 (mkF m 64 _ [(.int x7), (.ref qfa)])
          refine own_go (fun _ => XS.iconst X6.here hx rfl (hb hby d14_64)) ?_
          show own_WP p e below _ T6 (mkF m 65 _ [(.int (1 : Int32)), (.int x7), (.ref qfa)])
          refine own_go (fun _ => XS.iadd X6.here hx rfl (hb hby d14_65) rfl) ?_
          show own_WP p e below _ T6 (mkF m 66 _ [(.int (x7 + (1 : Int32))), (.ref qfa)])
          obtain ⟨w7, hg7, hv⟩ := own_bind hv
          refine own_go (own_iaload X6 C e6 V_qfa hg7 (hb hby d14_66)) ?_
          show own_WP p e below _ T6 (mkF m 67 #[.val (.ref o0), .val (.int x1), .val (.int x2), .val (.long x3), .second, .val (.long x5), .second, .val (.int x7), s8, s9] [(.int w7)])
          refine own_go (fun _ => XS.istore X6.here hx rfl (hb hby d14_67) rfl (XS.store1 (o := s8) rfl hs8 rfl)) ?_
          show own_WP p e below _ T6 (mkF m 69 #[.val (.ref o0), .val (.int x1), .val (.int x2), .val (.long x3), .second, .val (.long x5), .second, .val (.int x7), .val (.int w7), s9] [])
          refine own_go (fun _ => XS.aloadN X6.here hx rfl (hb hby d14_69) rfl rfl) ?_
          show own_WP p e below _ T6 (mkF m 70 _ [(.ref o0)])
          obtain ⟨T8, X8, e8, st8⟩ := getF X6 hx hZ hown (host := "") (Or.inl (hw _ (List.mem_of_getElem? (i := 112) rfl))) Via.refl e6 Fo0_1b (g := (mkF m 70 #[.val (.ref o0), .val (.int x1), .val (.int x2), .val (.long x3), .second, .val (.long x5), .second, .val (.int x7), .val (.int w7), s9] [(.ref o0)])) rfl rfl (hb hby d14_70)
          refine own_go st8 ?_
          clear st8 X6 e6
          show own_WP p e below _ T8 (mkF m 73 _ [(.ref qca)])
          refine own_go (fun _ => XS.iload X8.here hx rfl (hb hby d14_73) rfl) ?_
          show own_WP p e below _ T8 (mkF m 75 _ [(.int x7), (.ref qca)])
          obtain ⟨w9, hg9, hv⟩ := own_bind hv
          refine own_go (own_iaload X8 C e8 V_qca hg9 (hb hby d14_75)) ?_
          show own_WP p e below _ T8 (mkF m 76 #[.val (.ref o0), .val (.int x1), .val (.int x2), .val (.long x3), .second, .val (.long x5), .second, .val (.int x7), .val (.int w7), s9] [(.int w9)])
          refine own_go (fun _ => XS.istore X8.here hx rfl (hb hby d14_76) rfl (XS.store1 (o := s9) rfl hs9 rfl)) ?_
          show own_WP p e below _ T8 (mkF m 78 #[.val (.ref o0), .val (.int x1), .val (.int x2), .val (.long x3), .second, .val (.long x5), .second, .val (.int x7), .val (.int w7), .val (.int w9)] [])
          exact ih.2 X8 e8 N K o_o0_qfa o_qfa_qhd o_qhd_qtw o_qtw_qre o_qre_qlv o_qlv_qai o_qai_qca g_o0 E_o0 Fo0_8 Fo0_a Fo0_c Fo0_d Fo0_e Fo0_10 Fo0_12 Fo0_1b V_qfa V_qhd V_qtw V_qre V_qlv V_qai V_qca x1 x2 x3 x5 x7 w7 w9 hv
      · replace hv := (if_neg h27).symm.trans hv
        refine own_go (fun _ => XS.ifYes X.here hx rfl (pc0 := 27) (pc' := 206) rfl (hb hby d14_27) rfl (XT.ll_ge_t h27) (by decide) (by decide)) ?_
        show own_WP p e below _ T (mkF m 206 #[.val (.ref o0), .val (.int x1), .val (.int x2), .val (.long x3), .second, .val (.long x5), .second, .val (.int x7), s8, s9] [])
        refine own_go (fun _ => XS.lload X.here hx rfl (hb hby d14_206) rfl) ?_
        show own_WP p e below _ T (mkF m 208 #[.val (.ref o0), .val (.int x1), .val (.int x2), .val (.long x3), .second, .val (.long x5), .second, .val (.int x7), s8, s9] [(.long x5)])
        obtain rfl := Option.some.inj hv
        exact own_retL X C (hb hby d14_208) (by rw [e0]; exact hP _ _ _ N K ⟨rfl, V_qre, V_qlv, V_qai, V_qca⟩) (by decide) (by decide)
    · intro T locs h v_qre v_qlv v_qai v_qca X e0 N K o_o0_qfa o_qfa_qhd o_qhd_qtw o_qtw_qre o_qre_qlv o_qlv_qai o_qai_qca g_o0 E_o0 Fo0_8 Fo0_a Fo0_c Fo0_d Fo0_e Fo0_10 Fo0_12 Fo0_1b V_qfa V_qhd V_qtw V_qre V_qlv V_qai V_qca x1 x2 x3 x5 x7 x8 x9 hv
      unfold F14_23 at hv
      show own_WP p e below _ T (mkF m 78 #[.val (.ref o0), .val (.int x1), .val (.int x2), .val (.long x3), .second, .val (.long x5), .second, .val (.int x7), .val (.int x8), .val (.int x9)] [])
      refine own_go (fun _ => XS.iload X.here hx rfl (hb hby d14_78) rfl) ?_
      show own_WP p e below _ T (mkF m 80 _ [(.int x9)])
      refine own_go (fun _ => XS.iload X.here hx rfl (hb hby d14_80) rfl) ?_
      show own_WP p e below _ T (mkF m 82 _ [(.int x8), (.int x9)])
      by_cases h82 : x9 < x8
      · replace hv := (if_pos h82).symm.trans hv
        refine own_go (fun _ => XS.icmpNo X.here hx rfl (hb hby d14_82) rfl (XT.ii_ge_f h82)) ?_
        show own_WP p e below _ T (mkF m 85 #[.val (.ref o0), .val (.int x1), .val (.int x2), .val (.long x3), .second, .val (.long x5), .second, .val (.int x7), .val (.int x8), .val (.int x9)] [])
        refine own_go (fun _ => XS.aloadN X.here hx rfl (hb hby d14_85) rfl rfl) ?_
        show own_WP p e below _ T (mkF m 86 _ [(.ref o0)])
        obtain ⟨T10, X10, e10, st10⟩ := getF X hx hZ hown (host := "") (Or.inl (hw _ (List.mem_of_getElem? (i := 36) rfl))) Via.refl e0 Fo0_e (g := (mkF m 86 #[.val (.ref o0), .val (.int x1), .val (.int x2), .val (.long x3), .second, .val (.long x5), .second, .val (.int x7), .val (.int x8), .val (.int x9)] [(.ref o0)])) rfl rfl (hb hby d14_86)
        refine own_go st10 ?_
        clear st10 X e0
        show own_WP p e below _ T10 (mkF m 89 _ [(.ref qre)])
        refine own_go (fun _ => XS.iload X10.here hx rfl (hb hby d14_89) rfl) ?_
        show own_WP p e below _ T10 (mkF m 91 _ [(.int x9), (.ref qre)])
        obtain ⟨w11, hg11, hv⟩ := own_bind hv
        refine own_go (own_iaload X10 C e10 V_qre hg11 (hb hby d14_91)) ?_
        show own_WP p e below _ T10 (mkF m 92 _ [(.int w11)])
        by_cases h92 : (0 : Int32) < w11
        · replace hv := (if_pos h92).symm.trans hv
          refine own_go (fun _ => XS.ifNo X10.here hx rfl (hb hby d14_92) rfl (XT.i0_le_f h92)) ?_
          show own_WP p e below _ T10 (mkF m 95 #[.val (.ref o0), .val (.int x1), .val (.int x2), .val (.long x3), .second, .val (.long x5), .second, .val (.int x7), .val (.int x8), .val (.int x9)] [])
          refine own_go (fun _ => XS.aloadN X10.here hx rfl (hb hby d14_95) rfl rfl) ?_
          show own_WP p e below _ T10 (mkF m 96 _ [(.ref o0)])
          obtain ⟨T12, X12, e12, st12⟩ := getF X10 hx hZ hown (host := "") (Or.inl (hw _ (List.mem_of_getElem? (i := 51) rfl))) Via.refl e10 Fo0_10 (g := (mkF m 96 #[.val (.ref o0), .val (.int x1), .val (.int x2), .val (.long x3), .second, .val (.long x5), .second, .val (.int x7), .val (.int x8), .val (.int x9)] [(.ref o0)])) rfl rfl (hb hby d14_96)
          refine own_go st12 ?_
          clear st12 X10 e10
          show own_WP p e below _ T12 (mkF m 99 _ [(.ref qlv)])
          refine own_go (fun _ => XS.aloadN X12.here hx rfl (hb hby d14_99) rfl rfl) ?_
          show own_WP p e below _ T12 (mkF m 100 _ [(.ref o0), (.ref qlv)])
          obtain ⟨T13, X13, e13, st13⟩ := getF X12 hx hZ hown (host := "") (Or.inl (hw _ (List.mem_of_getElem? (i := 32) rfl))) Via.refl e12 Fo0_c (g := (mkF m 100 #[.val (.ref o0), .val (.int x1), .val (.int x2), .val (.long x3), .second, .val (.long x5), .second, .val (.int x7), .val (.int x8), .val (.int x9)] [(.ref o0), (.ref qlv)])) rfl rfl (hb hby d14_100)
          refine own_go st13 ?_
          clear st13 X12 e12
          show own_WP p e below _ T13 (mkF m 103 _ [(.ref qhd), (.ref qlv)])
          refine own_go (fun _ => XS.iload X13.here hx rfl (hb hby d14_103) rfl) ?_
          show own_WP p e below _ T13 (mkF m 105 _ [(.int x9), (.ref qhd), (.ref qlv)])
          obtain ⟨w14, hg14, hv⟩ := own_bind hv
          refine own_go (own_iaload X13 C e13 V_qhd hg14 (hb hby d14_105)) ?_
          show own_WP p e below _ T13 (mkF m 106 _ [(.int w14), (.ref qlv)])
          obtain ⟨w15, hg15, hv⟩ := own_bind hv
          refine own_go (own_iaload X13 C e13 V_qlv hg15 (hb hby d14_106)) ?_
          show own_WP p e below _ T13 (mkF m 107 _ [(.int w15)])
          refine own_go (fun _ => XS.aloadN X13.here hx rfl (hb hby d14_107) rfl rfl) ?_
          show own_WP p e below _ T13 (mkF m 108 #[.val (.ref o0), .val (.int x1), .val (.int x2), .val (.long x3), .second, .val (.long x5), .second, .val (.int x7), .val (.int x8), .val (.int x9)] [(.ref o0), (.int w15)])
          obtain ⟨T16, X16, e16, st16⟩ := getF X13 hx hZ hown (host := "") (Or.inl (hw _ (List.mem_of_getElem? (i := 51) rfl))) Via.refl e13 Fo0_10 (g := (mkF m 108 #[.val (.ref o0), .val (.int x1), .val (.int x2), .val (.long x3), .second, .val (.long x5), .second, .val (.int x7), .val (.int x8), .val (.int x9)] [(.ref o0), (.int w15)])) rfl rfl (hb hby d14_108)
          refine own_go st16 ?_
          clear st16 X13 e13
          show own_WP p e below _ T16 (mkF m 111 _ [(.ref qlv), (.int w15)])
          refine own_go (fun _ => XS.iload X16.here hx rfl (hb hby d14_111) rfl) ?_
          show own_WP p e below _ T16 (mkF m 113 _ [(.int x7), (.ref qlv), (.int w15)])
          obtain ⟨w17, hg17, hv⟩ := own_bind hv
          refine own_go (own_iaload X16 C e16 V_qlv hg17 (hb hby d14_113)) ?_
          show own_WP p e below _ T16 (mkF m 114 _ [(.int w17), (.int w15)])
          refine own_go (fun _ => XS.iconst X16.here hx rfl (hb hby d14_114)) ?_
          show own_WP p e below _ T16 (mkF m 115 _ [(.int (1 : Int32)), (.int w17), (.int w15)])
          refine own_go (fun _ => XS.iadd X16.here hx rfl (hb hby d14_115) rfl) ?_
          show own_WP p e below _ T16 (mkF m 116 _ [(.int (w17 + (1 : Int32))), (.int w15)])
          by_cases h116 : w15 = (w17 + (1 : Int32))
          · replace hv := (if_pos h116).symm.trans hv
            refine own_go (fun _ => XS.icmpYes X16.here hx rfl (pc0 := 116) (pc' := 125) rfl (hb hby d14_116) rfl (XT.ii_eq_t h116) (by decide) (by decide)) ?_
            show own_WP p e below _ T16 (mkF m 125 #[.val (.ref o0), .val (.int x1), .val (.int x2), .val (.long x3), .second, .val (.long x5), .second, .val (.int x7), .val (.int x8), .val (.int x9)] [])
            refine own_go (fun _ => XS.aloadN X16.here hx rfl (hb hby d14_125) rfl rfl) ?_
            show own_WP p e below _ T16 (mkF m 126 _ [(.ref o0)])
            obtain ⟨T18, X18, e18, st18⟩ := getF X16 hx hZ hown (host := "") (Or.inl (hw _ (List.mem_of_getElem? (i := 112) rfl))) Via.refl e16 Fo0_1b (g := (mkF m 126 #[.val (.ref o0), .val (.int x1), .val (.int x2), .val (.long x3), .second, .val (.long x5), .second, .val (.int x7), .val (.int x8), .val (.int x9)] [(.ref o0)])) rfl rfl (hb hby d14_126)
            refine own_go st18 ?_
            clear st18 X16 e16
            show own_WP p e below _ T18 (mkF m 129 _ [(.ref qca)])
            refine own_go (fun _ => XS.iload X18.here hx rfl (hb hby d14_129) rfl) ?_
            show own_WP p e below _ T18 (mkF m 131 _ [(.int x7), (.ref qca)])
            refine own_go (fun _ => XS.iload X18.here hx rfl (hb hby d14_131) rfl) ?_
            show own_WP p e below _ T18 (mkF m 133 _ [(.int x9), (.int x7), (.ref qca)])
            obtain ⟨u19, hg19, hv⟩ := own_bind hv
            obtain ⟨T19, h19, X19, e19, W19, V'19, st19⟩ := own_iastore X18 C e18 V_qca (j := x7) (x := x9) hg19 (hb hby d14_133)
            refine own_go st19 ?_
            replace E_o0 := E_o0.wr W19
            have nq : @Ne Addr o0 qca := own_ne (by omega)
            replace Fo0_8 := Fo0_8.other W19 (Or.inl nq)
            replace Fo0_a := Fo0_a.other W19 (Or.inl nq)
            replace Fo0_c := Fo0_c.other W19 (Or.inl nq)
            replace Fo0_d := Fo0_d.other W19 (Or.inl nq)
            replace Fo0_e := Fo0_e.other W19 (Or.inl nq)
            replace Fo0_10 := Fo0_10.other W19 (Or.inl nq)
            replace Fo0_12 := Fo0_12.other W19 (Or.inl nq)
            replace Fo0_1b := Fo0_1b.other W19 (Or.inl nq)
            clear nq
            replace V_qfa := V_qfa.other W19 (own_ne (by omega))
            replace V_qhd := V_qhd.other W19 (own_ne (by omega))
            replace V_qtw := V_qtw.other W19 (own_ne (by omega))
            replace V_qre := V_qre.other W19 (own_ne (by omega))
            replace V_qlv := V_qlv.other W19 (own_ne (by omega))
            replace V_qai := V_qai.other W19 (own_ne (by omega))
            replace V_qca := V'19
            clear V'19
            replace K := K.wr W19 (Or.inl (List.mem_of_getElem? (i := 3) rfl))
            replace N := Fr.snoc X19 N (by omega)
            clear st19 W19 hg19 X18 e18
            show own_WP p e below _ T19 (mkF m 134 _ [])
            refine own_go (fun _ => XS.iload X19.here hx rfl (hb hby d14_134) rfl) ?_
            show own_WP p e below _ T19 (mkF m 136 _ [(.int x9)])
            refine own_go (fun _ => XS.iload X19.here hx rfl (hb hby d14_136) rfl) ?_
            show own_WP p e below _ T19 (mkF m 138 _ [(.int x8), (.int x9)])
            by_cases h138 : x9 < x8
            · replace hv := (if_pos h138).symm.trans hv
              refine own_go (fun _ => XS.icmpNo X19.here hx rfl (hb hby d14_138) rfl (XT.ii_ge_f h138)) ?_
              show own_WP p e below _ T19 (mkF m 141 #[.val (.ref o0), .val (.int x1), .val (.int x2), .val (.long x3), .second, .val (.long x5), .second, .val (.int x7), .val (.int x8), .val (.int x9)] [])
              refine own_go (fun _ => XS.aloadN X19.here hx rfl (hb hby d14_141) rfl rfl) ?_
              show own_WP p e below _ T19 (mkF m 142 _ [(.ref o0)])
              obtain ⟨T20, X20, e20, st20⟩ := getF X19 hx hZ hown (host := "") (Or.inl (hw _ (List.mem_of_getElem? (i := 55) rfl))) Via.refl e19 Fo0_12 (g := (mkF m 142 #[.val (.ref o0), .val (.int x1), .val (.int x2), .val (.long x3), .second, .val (.long x5), .second, .val (.int x7), .val (.int x8), .val (.int x9)] [(.ref o0)])) rfl rfl (hb hby d14_142)
              refine own_go st20 ?_
              clear st20 X19 e19
              show own_WP p e below _ T20 (mkF m 145 _ [(.ref qai)])
              refine own_go (fun _ => XS.aloadN X20.here hx rfl (hb hby d14_145) rfl rfl) ?_
              show own_WP p e below _ T20 (mkF m 146 _ [(.ref o0), (.ref qai)])
              obtain ⟨T21, X21, e21, st21⟩ := getF X20 hx hZ hown (host := "") (Or.inl (hw _ (List.mem_of_getElem? (i := 32) rfl))) Via.refl e20 Fo0_c (g := (mkF m 146 #[.val (.ref o0), .val (.int x1), .val (.int x2), .val (.long x3), .second, .val (.long x5), .second, .val (.int x7), .val (.int x8), .val (.int x9)] [(.ref o0), (.ref qai)])) rfl rfl (hb hby d14_146)
              refine own_go st21 ?_
              clear st21 X20 e20
              show own_WP p e below _ T21 (mkF m 149 _ [(.ref qhd), (.ref qai)])
              refine own_go (fun _ => XS.iload X21.here hx rfl (hb hby d14_149) rfl) ?_
              show own_WP p e below _ T21 (mkF m 151 _ [(.int x9), (.ref qhd), (.ref qai)])
              obtain ⟨w22, hg22, hv⟩ := own_bind hv
              refine own_go (own_iaload X21 C e21 V_qhd hg22 (hb hby d14_151)) ?_
              show own_WP p e below _ T21 (mkF m 152 _ [(.int w22), (.ref qai)])
              refine own_go (fun _ => XS.iload X21.here hx rfl (hb hby d14_152) rfl) ?_
              show own_WP p e below _ T21 (mkF m 154 _ [(.int x9), (.int w22), (.ref qai)])
              obtain ⟨u23, hg23, hv⟩ := own_bind hv
              obtain ⟨T23, h23, X23, e23, W23, V'23, st23⟩ := own_iastore X21 C e21 V_qai (j := w22) (x := x9) hg23 (hb hby d14_154)
              refine own_go st23 ?_
              replace E_o0 := E_o0.wr W23
              have nq : @Ne Addr o0 qai := own_ne (by omega)
              replace Fo0_8 := Fo0_8.other W23 (Or.inl nq)
              replace Fo0_a := Fo0_a.other W23 (Or.inl nq)
              replace Fo0_c := Fo0_c.other W23 (Or.inl nq)
              replace Fo0_d := Fo0_d.other W23 (Or.inl nq)
              replace Fo0_e := Fo0_e.other W23 (Or.inl nq)
              replace Fo0_10 := Fo0_10.other W23 (Or.inl nq)
              replace Fo0_12 := Fo0_12.other W23 (Or.inl nq)
              replace Fo0_1b := Fo0_1b.other W23 (Or.inl nq)
              clear nq
              replace V_qfa := V_qfa.other W23 (own_ne (by omega))
              replace V_qhd := V_qhd.other W23 (own_ne (by omega))
              replace V_qtw := V_qtw.other W23 (own_ne (by omega))
              replace V_qre := V_qre.other W23 (own_ne (by omega))
              replace V_qlv := V_qlv.other W23 (own_ne (by omega))
              replace V_qca := V_qca.other W23 (own_ne (by omega))
              replace V_qai := V'23
              clear V'23
              replace K := K.wr W23 (Or.inl (List.mem_of_getElem? (i := 2) rfl))
              replace N := Fr.snoc X23 N (by omega)
              clear st23 W23 hg23 X21 e21
              show own_WP p e below _ T23 (mkF m 155 #[.val (.ref o0), .val (.int x1), .val (.int x2), .val (.long x3), .second, .val (.long x5), .second, .val (.int x7), .val (.int x8), .val (.int x9)] [])
              refine own_go (fun _ => XS.aloadN X23.here hx rfl (hb hby d14_155) rfl rfl) ?_
              show own_WP p e below _ T23 (mkF m 156 _ [(.ref o0)])
              obtain ⟨T24, X24, e24, st24⟩ := getF X23 hx hZ hown (host := "") (Or.inl (hw _ (List.mem_of_getElem? (i := 32) rfl))) Via.refl e23 Fo0_c (g := (mkF m 156 #[.val (.ref o0), .val (.int x1), .val (.int x2), .val (.long x3), .second, .val (.long x5), .second, .val (.int x7), .val (.int x8), .val (.int x9)] [(.ref o0)])) rfl rfl (hb hby d14_156)
              refine own_go st24 ?_
              clear st24 X23 e23
              show own_WP p e below _ T24 (mkF m 159 _ [(.ref qhd)])
              refine own_go (fun _ => XS.iload X24.here hx rfl (hb hby d14_159) rfl) ?_
              show own_WP p e below _ T24 (mkF m 161 _ [(.int x9), (.ref qhd)])
              obtain ⟨w25, hg25, hv⟩ := own_bind hv
              refine own_go (own_iaload X24 C e24 V_qhd hg25 (hb hby d14_161)) ?_
              show own_WP p e below _ T24 (mkF m 162 #[.val (.ref o0), .val (.int x1), .val (.int x2), .val (.long x3), .second, .val (.long x5), .second, .val (.int x7), .val (.int x8), .val (.int x9)] [(.int w25)])
              refine own_go (fun _ => XS.istore X24.here hx rfl (hb hby d14_162) rfl rfl) ?_
              show own_WP p e below _ T24 (mkF m 164 #[.val (.ref o0), .val (.int x1), .val (.int x2), .val (.long x3), .second, .val (.long x5), .second, .val (.int w25), .val (.int x8), .val (.int x9)] [])
              refine own_go (fun _ => XS.goto X24.here hx rfl (pc0 := 164) (pc' := 203) rfl (hb hby d14_164) (by decide) (by decide)) ?_
              show own_WP p e below _ T24 (mkF m 203 _ [])
              refine own_go (fun _ => XS.goto X24.here hx rfl (pc0 := 203) (pc' := 23) rfl (hb hby d14_203) (by decide) (by decide)) ?_
              exact ih.1 X24 e24 N K o_o0_qfa o_qfa_qhd o_qhd_qtw o_qtw_qre o_qre_qlv o_qlv_qai o_qai_qca g_o0 E_o0 Fo0_8 Fo0_a Fo0_c Fo0_d Fo0_e Fo0_10 Fo0_12 Fo0_1b V_qfa V_qhd V_qtw V_qre V_qlv V_qai V_qca x1 x2 x3 x5 w25 (.val (.int x8)) (One.val rfl) (.val (.int x9)) (One.val rfl) hv
            · replace hv := (if_neg h138).symm.trans hv
              refine own_go (fun _ => XS.icmpYes X19.here hx rfl (pc0 := 138) (pc' := 167) rfl (hb hby d14_138) rfl (XT.ii_ge_t h138) (by decide) (by decide)) ?_
              show own_WP p e below _ T19 (mkF m 167 #[.val (.ref o0), .val (.int x1), .val (.int x2), .val (.long x3), .second, .val (.long x5), .second, .val (.int x7), .val (.int x8), .val (.int x9)] [])
              refine own_go (fun _ => XS.iload X19.here hx rfl (hb hby d14_167) rfl) ?_
              show own_WP p e below _ T19 (mkF m 169 _ [(.int x7)])
              refine own_go (fun _ => XS.iloadN X19.here hx rfl (hb hby d14_169) rfl) ?_
              show own_WP p e below _ T19 (mkF m 170 _ [(.int x1), (.int x7)])
              by_cases h170 : x7 = x1
              · replace hv := (if_pos h170).symm.trans hv
                refine own_go (fun _ => XS.icmpNo X19.here hx rfl (hb hby d14_170) rfl (XT.ii_ne_f h170)) ?_
                show own_WP p e below _ T19 (mkF m 173 #[.val (.ref o0), .val (.int x1), .val (.int x2), .val (.long x3), .second, .val (.long x5), .second, .val (.int x7), .val (.int x8), .val (.int x9)] [])
                refine own_go (fun _ => XS.goto X19.here hx rfl (pc0 := 173) (pc' := 206) rfl (hb hby d14_173) (by decide) (by decide)) ?_
                show own_WP p e below _ T19 (mkF m 206 _ [])
                refine own_go (fun _ => XS.lload X19.here hx rfl (hb hby d14_206) rfl) ?_
                show own_WP p e below _ T19 (mkF m 208 #[.val (.ref o0), .val (.int x1), .val (.int x2), .val (.long x3), .second, .val (.long x5), .second, .val (.int x7), .val (.int x8), .val (.int x9)] [(.long x5)])
                obtain rfl := Option.some.inj hv
                exact own_retL X19 C (hb hby d14_208) (by rw [e19]; exact hP _ _ _ N K ⟨rfl, V_qre, V_qlv, V_qai, V_qca⟩) (by decide) (by decide)
              · replace hv := (if_neg h170).symm.trans hv
                refine own_go (fun _ => XS.icmpYes X19.here hx rfl (pc0 := 170) (pc' := 176) rfl (hb hby d14_170) rfl (XT.ii_ne_t h170) (by decide) (by decide)) ?_
                show own_WP p e below _ T19 (mkF m 176 #[.val (.ref o0), .val (.int x1), .val (.int x2), .val (.long x3), .second, .val (.long x5), .second, .val (.int x7), .val (.int x8), .val (.int x9)] [])
                refine own_go (fun _ => XS.aloadN X19.here hx rfl (hb hby d14_176) rfl rfl) ?_
                show own_WP p e below _ T19 (mkF m 177 _ [(.ref o0)])
                obtain ⟨T26, X26, e26, st26⟩ := getF X19 hx hZ hown (host := "") (Or.inl (hw _ (List.mem_of_getElem? (i := 51) rfl))) Via.refl e19 Fo0_10 (g := (mkF m 177 #[.val (.ref o0), .val (.int x1), .val (.int x2), .val (.long x3), .second, .val (.long x5), .second, .val (.int x7), .val (.int x8), .val (.int x9)] [(.ref o0)])) rfl rfl (hb hby d14_177)
                refine own_go st26 ?_
                clear st26 X19 e19
                show own_WP p e below _ T26 (mkF m 180 _ [(.ref qlv)])
                refine own_go (fun _ => XS.iload X26.here hx rfl (hb hby d14_180) rfl) ?_
                show own_WP p e below _ T26 (mkF m 182 _ [(.int x7), (.ref qlv)])
                refine own_go (fun _ => XS.iconst X26.here hx rfl (hb hby d14_182)) ?_
                show own_WP p e below _ T26 (mkF m 183 _ [(.int (-1 : Int32)), (.int x7), (.ref qlv)])
                obtain ⟨u27, hg27, hv⟩ := own_bind hv
                obtain ⟨T27, h27, X27, e27, W27, V'27, st27⟩ := own_iastore X26 C e26 V_qlv (j := x7) (x := (-1 : Int32)) hg27 (hb hby d14_183)
                refine own_go st27 ?_
                replace E_o0 := E_o0.wr W27
                have nq : @Ne Addr o0 qlv := own_ne (by omega)
                replace Fo0_8 := Fo0_8.other W27 (Or.inl nq)
                replace Fo0_a := Fo0_a.other W27 (Or.inl nq)
                replace Fo0_c := Fo0_c.other W27 (Or.inl nq)
                replace Fo0_d := Fo0_d.other W27 (Or.inl nq)
                replace Fo0_e := Fo0_e.other W27 (Or.inl nq)
                replace Fo0_10 := Fo0_10.other W27 (Or.inl nq)
                replace Fo0_12 := Fo0_12.other W27 (Or.inl nq)
                replace Fo0_1b := Fo0_1b.other W27 (Or.inl nq)
                clear nq
                replace V_qfa := V_qfa.other W27 (own_ne (by omega))
                replace V_qhd := V_qhd.other W27 (own_ne (by omega))
                replace V_qtw := V_qtw.other W27 (own_ne (by omega))
                replace V_qre := V_qre.other W27 (own_ne (by omega))
                replace V_qai := V_qai.other W27 (own_ne (by omega))
                replace V_qca := V_qca.other W27 (own_ne (by omega))
                replace V_qlv := V'27
                clear V'27
                replace K := K.wr W27 (Or.inl (List.mem_of_getElem? (i := 1) rfl))
                replace N := Fr.snoc X27 N (by omega)
                clear st27 W27 hg27 X26 e26
                show own_WP p e below _ T27 (mkF m 184 _ [])
                refine own_go (fun _ => XS.aloadN X27.here hx rfl (hb hby d14_184) rfl rfl) ?_
                show own_WP p e below _ T27 (mkF m 185 _ [(.ref o0)])
                obtain ⟨T28, X28, e28, st28⟩ := getF X27 hx hZ hown (host := "") (Or.inl (hw _ (List.mem_of_getElem? (i := 32) rfl))) Via.refl e27 Fo0_c (g := (mkF m 185 #[.val (.ref o0), .val (.int x1), .val (.int x2), .val (.long x3), .second, .val (.long x5), .second, .val (.int x7), .val (.int x8), .val (.int x9)] [(.ref o0)])) rfl rfl (hb hby d14_185)
                refine own_go st28 ?_
                clear st28 X27 e27
                show own_WP p e below _ T28 (mkF m 188 _ [(.ref qhd)])
                refine own_go (fun _ => XS.aloadN X28.here hx rfl (hb hby d14_188) rfl rfl) ?_
                show own_WP p e below _ T28 (mkF m 189 #[.val (.ref o0), .val (.int x1), .val (.int x2), .val (.long x3), .second, .val (.long x5), .second, .val (.int x7), .val (.int x8), .val (.int x9)] [(.ref o0), (.ref qhd)])
                obtain ⟨T29, X29, e29, st29⟩ := getF X28 hx hZ hown (host := "") (Or.inl (hw _ (List.mem_of_getElem? (i := 34) rfl))) Via.refl e28 Fo0_d (g := (mkF m 189 #[.val (.ref o0), .val (.int x1), .val (.int x2), .val (.long x3), .second, .val (.long x5), .second, .val (.int x7), .val (.int x8), .val (.int x9)] [(.ref o0), (.ref qhd)])) rfl rfl (hb hby d14_189)
                refine own_go st29 ?_
                clear st29 X28 e28
                show own_WP p e below _ T29 (mkF m 192 _ [(.ref qtw), (.ref qhd)])
                refine own_go (fun _ => XS.aloadN X29.here hx rfl (hb hby d14_192) rfl rfl) ?_
                show own_WP p e below _ T29 (mkF m 193 _ [(.ref o0), (.ref qtw), (.ref qhd)])
                obtain ⟨T30, X30, e30, st30⟩ := getF X29 hx hZ hown (host := "") (Or.inl (hw _ (List.mem_of_getElem? (i := 55) rfl))) Via.refl e29 Fo0_12 (g := (mkF m 193 #[.val (.ref o0), .val (.int x1), .val (.int x2), .val (.long x3), .second, .val (.long x5), .second, .val (.int x7), .val (.int x8), .val (.int x9)] [(.ref o0), (.ref qtw), (.ref qhd)])) rfl rfl (hb hby d14_193)
                refine own_go st30 ?_
                clear st30 X29 e29
                show own_WP p e below _ T30 (mkF m 196 _ [(.ref qai), (.ref qtw), (.ref qhd)])
                refine own_go (fun _ => XS.iload X30.here hx rfl (hb hby d14_196) rfl) ?_
                show own_WP p e below _ T30 (mkF m 198 _ [(.int x7), (.ref qai), (.ref qtw), (.ref qhd)])
                obtain ⟨w31, hg31, hv⟩ := own_bind hv
                refine own_go (own_iaload X30 C e30 V_qai hg31 (hb hby d14_198)) ?_
                show own_WP p e below _ T30 (mkF m 199 _ [(.int w31), (.ref qtw), (.ref qhd)])
                obtain ⟨w32, hg32, hv⟩ := own_bind hv
                refine own_go (own_iaload X30 C e30 V_qtw hg32 (hb hby d14_199)) ?_
                show own_WP p e below _ T30 (mkF m 200 _ [(.int w32), (.ref qhd)])
                obtain ⟨w33, hg33, hv⟩ := own_bind hv
                refine own_go (own_iaload X30 C e30 V_qhd hg33 (hb hby d14_200)) ?_
                show own_WP p e below _ T30 (mkF m 201 #[.val (.ref o0), .val (.int x1), .val (.int x2), .val (.long x3), .second, .val (.long x5), .second, .val (.int x7), .val (.int x8), .val (.int x9)] [(.int w33)])
                refine own_go (fun _ => XS.istore X30.here hx rfl (hb hby d14_201) rfl rfl) ?_
                show own_WP p e below _ T30 (mkF m 203 #[.val (.ref o0), .val (.int x1), .val (.int x2), .val (.long x3), .second, .val (.long x5), .second, .val (.int w33), .val (.int x8), .val (.int x9)] [])
                refine own_go (fun _ => XS.goto X30.here hx rfl (pc0 := 203) (pc' := 23) rfl (hb hby d14_203) (by decide) (by decide)) ?_
                exact ih.1 X30 e30 N K o_o0_qfa o_qfa_qhd o_qhd_qtw o_qtw_qre o_qre_qlv o_qlv_qai o_qai_qca g_o0 E_o0 Fo0_8 Fo0_a Fo0_c Fo0_d Fo0_e Fo0_10 Fo0_12 Fo0_1b V_qfa V_qhd V_qtw V_qre V_qlv V_qai V_qca x1 x2 x3 x5 w33 (.val (.int x8)) (One.val rfl) (.val (.int x9)) (One.val rfl) hv
          · replace hv := (if_neg h116).symm.trans hv
            refine own_go (fun _ => XS.icmpNo X16.here hx rfl (hb hby d14_116) rfl (XT.ii_eq_f h116)) ?_
            show own_WP p e below _ T16 (mkF m 119 #[.val (.ref o0), .val (.int x1), .val (.int x2), .val (.long x3), .second, .val (.long x5), .second, .val (.int x7), .val (.int x8), .val (.int x9)] [])
            refine own_go (fun _ => XS.iinc X16.here hx rfl (hb hby d14_119) rfl rfl) ?_
            show own_WP p e below _ T16 (mkF m 122 #[.val (.ref o0), .val (.int x1), .val (.int x2), .val (.long x3), .second, .val (.long x5), .second, .val (.int x7), .val (.int x8), .val (.int (x9 + (1 : Int32)))] [])
            refine own_go (fun _ => XS.goto X16.here hx rfl (pc0 := 122) (pc' := 78) rfl (hb hby d14_122) (by decide) (by decide)) ?_
            exact ih.2 X16 e16 N K o_o0_qfa o_qfa_qhd o_qhd_qtw o_qtw_qre o_qre_qlv o_qlv_qai o_qai_qca g_o0 E_o0 Fo0_8 Fo0_a Fo0_c Fo0_d Fo0_e Fo0_10 Fo0_12 Fo0_1b V_qfa V_qhd V_qtw V_qre V_qlv V_qai V_qca x1 x2 x3 x5 x7 x8 (x9 + (1 : Int32)) hv
        · replace hv := (if_neg h92).symm.trans hv
          refine own_go (fun _ => XS.ifYes X10.here hx rfl (pc0 := 92) (pc' := 119) rfl (hb hby d14_92) rfl (XT.i0_le_t h92) (by decide) (by decide)) ?_
          show own_WP p e below _ T10 (mkF m 119 #[.val (.ref o0), .val (.int x1), .val (.int x2), .val (.long x3), .second, .val (.long x5), .second, .val (.int x7), .val (.int x8), .val (.int x9)] [])
          refine own_go (fun _ => XS.iinc X10.here hx rfl (hb hby d14_119) rfl rfl) ?_
          show own_WP p e below _ T10 (mkF m 122 #[.val (.ref o0), .val (.int x1), .val (.int x2), .val (.long x3), .second, .val (.long x5), .second, .val (.int x7), .val (.int x8), .val (.int (x9 + (1 : Int32)))] [])
          refine own_go (fun _ => XS.goto X10.here hx rfl (pc0 := 122) (pc' := 78) rfl (hb hby d14_122) (by decide) (by decide)) ?_
          exact ih.2 X10 e10 N K o_o0_qfa o_qfa_qhd o_qhd_qtw o_qtw_qre o_qre_qlv o_qlv_qai o_qai_qca g_o0 E_o0 Fo0_8 Fo0_a Fo0_c Fo0_d Fo0_e Fo0_10 Fo0_12 Fo0_1b V_qfa V_qhd V_qtw V_qre V_qlv V_qai V_qca x1 x2 x3 x5 x7 x8 (x9 + (1 : Int32)) hv
      · replace hv := (if_neg h82).symm.trans hv
        refine own_go (fun _ => XS.icmpYes X.here hx rfl (pc0 := 82) (pc' := 125) rfl (hb hby d14_82) rfl (XT.ii_ge_t h82) (by decide) (by decide)) ?_
        show own_WP p e below _ T (mkF m 125 #[.val (.ref o0), .val (.int x1), .val (.int x2), .val (.long x3), .second, .val (.long x5), .second, .val (.int x7), .val (.int x8), .val (.int x9)] [])
        refine own_go (fun _ => XS.aloadN X.here hx rfl (hb hby d14_125) rfl rfl) ?_
        show own_WP p e below _ T (mkF m 126 _ [(.ref o0)])
        obtain ⟨T34, X34, e34, st34⟩ := getF X hx hZ hown (host := "") (Or.inl (hw _ (List.mem_of_getElem? (i := 112) rfl))) Via.refl e0 Fo0_1b (g := (mkF m 126 #[.val (.ref o0), .val (.int x1), .val (.int x2), .val (.long x3), .second, .val (.long x5), .second, .val (.int x7), .val (.int x8), .val (.int x9)] [(.ref o0)])) rfl rfl (hb hby d14_126)
        refine own_go st34 ?_
        clear st34 X e0
        show own_WP p e below _ T34 (mkF m 129 _ [(.ref qca)])
        refine own_go (fun _ => XS.iload X34.here hx rfl (hb hby d14_129) rfl) ?_
        show own_WP p e below _ T34 (mkF m 131 _ [(.int x7), (.ref qca)])
        refine own_go (fun _ => XS.iload X34.here hx rfl (hb hby d14_131) rfl) ?_
        show own_WP p e below _ T34 (mkF m 133 _ [(.int x9), (.int x7), (.ref qca)])
        obtain ⟨u35, hg35, hv⟩ := own_bind hv
        obtain ⟨T35, h35, X35, e35, W35, V'35, st35⟩ := own_iastore X34 C e34 V_qca (j := x7) (x := x9) hg35 (hb hby d14_133)
        refine own_go st35 ?_
        replace E_o0 := E_o0.wr W35
        have nq : @Ne Addr o0 qca := own_ne (by omega)
        replace Fo0_8 := Fo0_8.other W35 (Or.inl nq)
        replace Fo0_a := Fo0_a.other W35 (Or.inl nq)
        replace Fo0_c := Fo0_c.other W35 (Or.inl nq)
        replace Fo0_d := Fo0_d.other W35 (Or.inl nq)
        replace Fo0_e := Fo0_e.other W35 (Or.inl nq)
        replace Fo0_10 := Fo0_10.other W35 (Or.inl nq)
        replace Fo0_12 := Fo0_12.other W35 (Or.inl nq)
        replace Fo0_1b := Fo0_1b.other W35 (Or.inl nq)
        clear nq
        replace V_qfa := V_qfa.other W35 (own_ne (by omega))
        replace V_qhd := V_qhd.other W35 (own_ne (by omega))
        replace V_qtw := V_qtw.other W35 (own_ne (by omega))
        replace V_qre := V_qre.other W35 (own_ne (by omega))
        replace V_qlv := V_qlv.other W35 (own_ne (by omega))
        replace V_qai := V_qai.other W35 (own_ne (by omega))
        replace V_qca := V'35
        clear V'35
        replace K := K.wr W35 (Or.inl (List.mem_of_getElem? (i := 3) rfl))
        replace N := Fr.snoc X35 N (by omega)
        clear st35 W35 hg35 X34 e34
        show own_WP p e below _ T35 (mkF m 134 _ [])
        refine own_go (fun _ => XS.iload X35.here hx rfl (hb hby d14_134) rfl) ?_
        show own_WP p e below _ T35 (mkF m 136 _ [(.int x9)])
        refine own_go (fun _ => XS.iload X35.here hx rfl (hb hby d14_136) rfl) ?_
        show own_WP p e below _ T35 (mkF m 138 _ [(.int x8), (.int x9)])
        by_cases h138 : x9 < x8
        · replace hv := (if_pos h138).symm.trans hv
          refine own_go (fun _ => XS.icmpNo X35.here hx rfl (hb hby d14_138) rfl (XT.ii_ge_f h138)) ?_
          show own_WP p e below _ T35 (mkF m 141 #[.val (.ref o0), .val (.int x1), .val (.int x2), .val (.long x3), .second, .val (.long x5), .second, .val (.int x7), .val (.int x8), .val (.int x9)] [])
          refine own_go (fun _ => XS.aloadN X35.here hx rfl (hb hby d14_141) rfl rfl) ?_
          show own_WP p e below _ T35 (mkF m 142 _ [(.ref o0)])
          obtain ⟨T36, X36, e36, st36⟩ := getF X35 hx hZ hown (host := "") (Or.inl (hw _ (List.mem_of_getElem? (i := 55) rfl))) Via.refl e35 Fo0_12 (g := (mkF m 142 #[.val (.ref o0), .val (.int x1), .val (.int x2), .val (.long x3), .second, .val (.long x5), .second, .val (.int x7), .val (.int x8), .val (.int x9)] [(.ref o0)])) rfl rfl (hb hby d14_142)
          refine own_go st36 ?_
          clear st36 X35 e35
          show own_WP p e below _ T36 (mkF m 145 _ [(.ref qai)])
          refine own_go (fun _ => XS.aloadN X36.here hx rfl (hb hby d14_145) rfl rfl) ?_
          show own_WP p e below _ T36 (mkF m 146 _ [(.ref o0), (.ref qai)])
          obtain ⟨T37, X37, e37, st37⟩ := getF X36 hx hZ hown (host := "") (Or.inl (hw _ (List.mem_of_getElem? (i := 32) rfl))) Via.refl e36 Fo0_c (g := (mkF m 146 #[.val (.ref o0), .val (.int x1), .val (.int x2), .val (.long x3), .second, .val (.long x5), .second, .val (.int x7), .val (.int x8), .val (.int x9)] [(.ref o0), (.ref qai)])) rfl rfl (hb hby d14_146)
          refine own_go st37 ?_
          clear st37 X36 e36
          show own_WP p e below _ T37 (mkF m 149 _ [(.ref qhd), (.ref qai)])
          refine own_go (fun _ => XS.iload X37.here hx rfl (hb hby d14_149) rfl) ?_
          show own_WP p e below _ T37 (mkF m 151 _ [(.int x9), (.ref qhd), (.ref qai)])
          obtain ⟨w38, hg38, hv⟩ := own_bind hv
          refine own_go (own_iaload X37 C e37 V_qhd hg38 (hb hby d14_151)) ?_
          show own_WP p e below _ T37 (mkF m 152 _ [(.int w38), (.ref qai)])
          refine own_go (fun _ => XS.iload X37.here hx rfl (hb hby d14_152) rfl) ?_
          show own_WP p e below _ T37 (mkF m 154 _ [(.int x9), (.int w38), (.ref qai)])
          obtain ⟨u39, hg39, hv⟩ := own_bind hv
          obtain ⟨T39, h39, X39, e39, W39, V'39, st39⟩ := own_iastore X37 C e37 V_qai (j := w38) (x := x9) hg39 (hb hby d14_154)
          refine own_go st39 ?_
          replace E_o0 := E_o0.wr W39
          have nq : @Ne Addr o0 qai := own_ne (by omega)
          replace Fo0_8 := Fo0_8.other W39 (Or.inl nq)
          replace Fo0_a := Fo0_a.other W39 (Or.inl nq)
          replace Fo0_c := Fo0_c.other W39 (Or.inl nq)
          replace Fo0_d := Fo0_d.other W39 (Or.inl nq)
          replace Fo0_e := Fo0_e.other W39 (Or.inl nq)
          replace Fo0_10 := Fo0_10.other W39 (Or.inl nq)
          replace Fo0_12 := Fo0_12.other W39 (Or.inl nq)
          replace Fo0_1b := Fo0_1b.other W39 (Or.inl nq)
          clear nq
          replace V_qfa := V_qfa.other W39 (own_ne (by omega))
          replace V_qhd := V_qhd.other W39 (own_ne (by omega))
          replace V_qtw := V_qtw.other W39 (own_ne (by omega))
          replace V_qre := V_qre.other W39 (own_ne (by omega))
          replace V_qlv := V_qlv.other W39 (own_ne (by omega))
          replace V_qca := V_qca.other W39 (own_ne (by omega))
          replace V_qai := V'39
          clear V'39
          replace K := K.wr W39 (Or.inl (List.mem_of_getElem? (i := 2) rfl))
          replace N := Fr.snoc X39 N (by omega)
          clear st39 W39 hg39 X37 e37
          show own_WP p e below _ T39 (mkF m 155 #[.val (.ref o0), .val (.int x1), .val (.int x2), .val (.long x3), .second, .val (.long x5), .second, .val (.int x7), .val (.int x8), .val (.int x9)] [])
          refine own_go (fun _ => XS.aloadN X39.here hx rfl (hb hby d14_155) rfl rfl) ?_
          show own_WP p e below _ T39 (mkF m 156 _ [(.ref o0)])
          obtain ⟨T40, X40, e40, st40⟩ := getF X39 hx hZ hown (host := "") (Or.inl (hw _ (List.mem_of_getElem? (i := 32) rfl))) Via.refl e39 Fo0_c (g := (mkF m 156 #[.val (.ref o0), .val (.int x1), .val (.int x2), .val (.long x3), .second, .val (.long x5), .second, .val (.int x7), .val (.int x8), .val (.int x9)] [(.ref o0)])) rfl rfl (hb hby d14_156)
          refine own_go st40 ?_
          clear st40 X39 e39
          show own_WP p e below _ T40 (mkF m 159 _ [(.ref qhd)])
          refine own_go (fun _ => XS.iload X40.here hx rfl (hb hby d14_159) rfl) ?_
          show own_WP p e below _ T40 (mkF m 161 _ [(.int x9), (.ref qhd)])
          obtain ⟨w41, hg41, hv⟩ := own_bind hv
          refine own_go (own_iaload X40 C e40 V_qhd hg41 (hb hby d14_161)) ?_
          show own_WP p e below _ T40 (mkF m 162 #[.val (.ref o0), .val (.int x1), .val (.int x2), .val (.long x3), .second, .val (.long x5), .second, .val (.int x7), .val (.int x8), .val (.int x9)] [(.int w41)])
          refine own_go (fun _ => XS.istore X40.here hx rfl (hb hby d14_162) rfl rfl) ?_
          show own_WP p e below _ T40 (mkF m 164 #[.val (.ref o0), .val (.int x1), .val (.int x2), .val (.long x3), .second, .val (.long x5), .second, .val (.int w41), .val (.int x8), .val (.int x9)] [])
          refine own_go (fun _ => XS.goto X40.here hx rfl (pc0 := 164) (pc' := 203) rfl (hb hby d14_164) (by decide) (by decide)) ?_
          show own_WP p e below _ T40 (mkF m 203 _ [])
          refine own_go (fun _ => XS.goto X40.here hx rfl (pc0 := 203) (pc' := 23) rfl (hb hby d14_203) (by decide) (by decide)) ?_
          exact ih.1 X40 e40 N K o_o0_qfa o_qfa_qhd o_qhd_qtw o_qtw_qre o_qre_qlv o_qlv_qai o_qai_qca g_o0 E_o0 Fo0_8 Fo0_a Fo0_c Fo0_d Fo0_e Fo0_10 Fo0_12 Fo0_1b V_qfa V_qhd V_qtw V_qre V_qlv V_qai V_qca x1 x2 x3 x5 w41 (.val (.int x8)) (One.val rfl) (.val (.int x9)) (One.val rfl) hv
        · replace hv := (if_neg h138).symm.trans hv
          refine own_go (fun _ => XS.icmpYes X35.here hx rfl (pc0 := 138) (pc' := 167) rfl (hb hby d14_138) rfl (XT.ii_ge_t h138) (by decide) (by decide)) ?_
          show own_WP p e below _ T35 (mkF m 167 #[.val (.ref o0), .val (.int x1), .val (.int x2), .val (.long x3), .second, .val (.long x5), .second, .val (.int x7), .val (.int x8), .val (.int x9)] [])
          refine own_go (fun _ => XS.iload X35.here hx rfl (hb hby d14_167) rfl) ?_
          show own_WP p e below _ T35 (mkF m 169 _ [(.int x7)])
          refine own_go (fun _ => XS.iloadN X35.here hx rfl (hb hby d14_169) rfl) ?_
          show own_WP p e below _ T35 (mkF m 170 _ [(.int x1), (.int x7)])
          by_cases h170 : x7 = x1
          · replace hv := (if_pos h170).symm.trans hv
            refine own_go (fun _ => XS.icmpNo X35.here hx rfl (hb hby d14_170) rfl (XT.ii_ne_f h170)) ?_
            show own_WP p e below _ T35 (mkF m 173 #[.val (.ref o0), .val (.int x1), .val (.int x2), .val (.long x3), .second, .val (.long x5), .second, .val (.int x7), .val (.int x8), .val (.int x9)] [])
            refine own_go (fun _ => XS.goto X35.here hx rfl (pc0 := 173) (pc' := 206) rfl (hb hby d14_173) (by decide) (by decide)) ?_
            show own_WP p e below _ T35 (mkF m 206 _ [])
            refine own_go (fun _ => XS.lload X35.here hx rfl (hb hby d14_206) rfl) ?_
            show own_WP p e below _ T35 (mkF m 208 #[.val (.ref o0), .val (.int x1), .val (.int x2), .val (.long x3), .second, .val (.long x5), .second, .val (.int x7), .val (.int x8), .val (.int x9)] [(.long x5)])
            obtain rfl := Option.some.inj hv
            exact own_retL X35 C (hb hby d14_208) (by rw [e35]; exact hP _ _ _ N K ⟨rfl, V_qre, V_qlv, V_qai, V_qca⟩) (by decide) (by decide)
          · replace hv := (if_neg h170).symm.trans hv
            refine own_go (fun _ => XS.icmpYes X35.here hx rfl (pc0 := 170) (pc' := 176) rfl (hb hby d14_170) rfl (XT.ii_ne_t h170) (by decide) (by decide)) ?_
            show own_WP p e below _ T35 (mkF m 176 #[.val (.ref o0), .val (.int x1), .val (.int x2), .val (.long x3), .second, .val (.long x5), .second, .val (.int x7), .val (.int x8), .val (.int x9)] [])
            refine own_go (fun _ => XS.aloadN X35.here hx rfl (hb hby d14_176) rfl rfl) ?_
            show own_WP p e below _ T35 (mkF m 177 _ [(.ref o0)])
            obtain ⟨T42, X42, e42, st42⟩ := getF X35 hx hZ hown (host := "") (Or.inl (hw _ (List.mem_of_getElem? (i := 51) rfl))) Via.refl e35 Fo0_10 (g := (mkF m 177 #[.val (.ref o0), .val (.int x1), .val (.int x2), .val (.long x3), .second, .val (.long x5), .second, .val (.int x7), .val (.int x8), .val (.int x9)] [(.ref o0)])) rfl rfl (hb hby d14_177)
            refine own_go st42 ?_
            clear st42 X35 e35
            show own_WP p e below _ T42 (mkF m 180 _ [(.ref qlv)])
            refine own_go (fun _ => XS.iload X42.here hx rfl (hb hby d14_180) rfl) ?_
            show own_WP p e below _ T42 (mkF m 182 _ [(.int x7), (.ref qlv)])
            refine own_go (fun _ => XS.iconst X42.here hx rfl (hb hby d14_182)) ?_
            show own_WP p e below _ T42 (mkF m 183 _ [(.int (-1 : Int32)), (.int x7), (.ref qlv)])
            obtain ⟨u43, hg43, hv⟩ := own_bind hv
            obtain ⟨T43, h43, X43, e43, W43, V'43, st43⟩ := own_iastore X42 C e42 V_qlv (j := x7) (x := (-1 : Int32)) hg43 (hb hby d14_183)
            refine own_go st43 ?_
            replace E_o0 := E_o0.wr W43
            have nq : @Ne Addr o0 qlv := own_ne (by omega)
            replace Fo0_8 := Fo0_8.other W43 (Or.inl nq)
            replace Fo0_a := Fo0_a.other W43 (Or.inl nq)
            replace Fo0_c := Fo0_c.other W43 (Or.inl nq)
            replace Fo0_d := Fo0_d.other W43 (Or.inl nq)
            replace Fo0_e := Fo0_e.other W43 (Or.inl nq)
            replace Fo0_10 := Fo0_10.other W43 (Or.inl nq)
            replace Fo0_12 := Fo0_12.other W43 (Or.inl nq)
            replace Fo0_1b := Fo0_1b.other W43 (Or.inl nq)
            clear nq
            replace V_qfa := V_qfa.other W43 (own_ne (by omega))
            replace V_qhd := V_qhd.other W43 (own_ne (by omega))
            replace V_qtw := V_qtw.other W43 (own_ne (by omega))
            replace V_qre := V_qre.other W43 (own_ne (by omega))
            replace V_qai := V_qai.other W43 (own_ne (by omega))
            replace V_qca := V_qca.other W43 (own_ne (by omega))
            replace V_qlv := V'43
            clear V'43
            replace K := K.wr W43 (Or.inl (List.mem_of_getElem? (i := 1) rfl))
            replace N := Fr.snoc X43 N (by omega)
            clear st43 W43 hg43 X42 e42
            show own_WP p e below _ T43 (mkF m 184 _ [])
            refine own_go (fun _ => XS.aloadN X43.here hx rfl (hb hby d14_184) rfl rfl) ?_
            show own_WP p e below _ T43 (mkF m 185 _ [(.ref o0)])
            obtain ⟨T44, X44, e44, st44⟩ := getF X43 hx hZ hown (host := "") (Or.inl (hw _ (List.mem_of_getElem? (i := 32) rfl))) Via.refl e43 Fo0_c (g := (mkF m 185 #[.val (.ref o0), .val (.int x1), .val (.int x2), .val (.long x3), .second, .val (.long x5), .second, .val (.int x7), .val (.int x8), .val (.int x9)] [(.ref o0)])) rfl rfl (hb hby d14_185)
            refine own_go st44 ?_
            clear st44 X43 e43
            show own_WP p e below _ T44 (mkF m 188 _ [(.ref qhd)])
            refine own_go (fun _ => XS.aloadN X44.here hx rfl (hb hby d14_188) rfl rfl) ?_
            show own_WP p e below _ T44 (mkF m 189 #[.val (.ref o0), .val (.int x1), .val (.int x2), .val (.long x3), .second, .val (.long x5), .second, .val (.int x7), .val (.int x8), .val (.int x9)] [(.ref o0), (.ref qhd)])
            obtain ⟨T45, X45, e45, st45⟩ := getF X44 hx hZ hown (host := "") (Or.inl (hw _ (List.mem_of_getElem? (i := 34) rfl))) Via.refl e44 Fo0_d (g := (mkF m 189 #[.val (.ref o0), .val (.int x1), .val (.int x2), .val (.long x3), .second, .val (.long x5), .second, .val (.int x7), .val (.int x8), .val (.int x9)] [(.ref o0), (.ref qhd)])) rfl rfl (hb hby d14_189)
            refine own_go st45 ?_
            clear st45 X44 e44
            show own_WP p e below _ T45 (mkF m 192 _ [(.ref qtw), (.ref qhd)])
            refine own_go (fun _ => XS.aloadN X45.here hx rfl (hb hby d14_192) rfl rfl) ?_
            show own_WP p e below _ T45 (mkF m 193 _ [(.ref o0), (.ref qtw), (.ref qhd)])
            obtain ⟨T46, X46, e46, st46⟩ := getF X45 hx hZ hown (host := "") (Or.inl (hw _ (List.mem_of_getElem? (i := 55) rfl))) Via.refl e45 Fo0_12 (g := (mkF m 193 #[.val (.ref o0), .val (.int x1), .val (.int x2), .val (.long x3), .second, .val (.long x5), .second, .val (.int x7), .val (.int x8), .val (.int x9)] [(.ref o0), (.ref qtw), (.ref qhd)])) rfl rfl (hb hby d14_193)
            refine own_go st46 ?_
            clear st46 X45 e45
            show own_WP p e below _ T46 (mkF m 196 _ [(.ref qai), (.ref qtw), (.ref qhd)])
            refine own_go (fun _ => XS.iload X46.here hx rfl (hb hby d14_196) rfl) ?_
            show own_WP p e below _ T46 (mkF m 198 _ [(.int x7), (.ref qai), (.ref qtw), (.ref qhd)])
            obtain ⟨w47, hg47, hv⟩ := own_bind hv
            refine own_go (own_iaload X46 C e46 V_qai hg47 (hb hby d14_198)) ?_
            show own_WP p e below _ T46 (mkF m 199 _ [(.int w47), (.ref qtw), (.ref qhd)])
            obtain ⟨w48, hg48, hv⟩ := own_bind hv
            refine own_go (own_iaload X46 C e46 V_qtw hg48 (hb hby d14_199)) ?_
            show own_WP p e below _ T46 (mkF m 200 _ [(.int w48), (.ref qhd)])
            obtain ⟨w49, hg49, hv⟩ := own_bind hv
            refine own_go (own_iaload X46 C e46 V_qhd hg49 (hb hby d14_200)) ?_
            show own_WP p e below _ T46 (mkF m 201 #[.val (.ref o0), .val (.int x1), .val (.int x2), .val (.long x3), .second, .val (.long x5), .second, .val (.int x7), .val (.int x8), .val (.int x9)] [(.int w49)])
            refine own_go (fun _ => XS.istore X46.here hx rfl (hb hby d14_201) rfl rfl) ?_
            show own_WP p e below _ T46 (mkF m 203 #[.val (.ref o0), .val (.int x1), .val (.int x2), .val (.long x3), .second, .val (.long x5), .second, .val (.int w49), .val (.int x8), .val (.int x9)] [])
            refine own_go (fun _ => XS.goto X46.here hx rfl (pc0 := 203) (pc' := 23) rfl (hb hby d14_203) (by decide) (by decide)) ?_
            exact ih.1 X46 e46 N K o_o0_qfa o_qfa_qhd o_qhd_qtw o_qtw_qre o_qre_qlv o_qlv_qai o_qai_qca g_o0 E_o0 Fo0_8 Fo0_a Fo0_c Fo0_d Fo0_e Fo0_10 Fo0_12 Fo0_1b V_qfa V_qhd V_qtw V_qre V_qlv V_qai V_qca x1 x2 x3 x5 w49 (.val (.int x8)) (One.val rfl) (.val (.int x9)) (One.val rfl) hv
def f14_0 (nn : Int32) (lfa : List Int32) (lhd : List Int32) (ltw : List Int32) (v_qre : List Int32) (v_qlv : List Int32) (v_qai : List Int32) (v_qca : List Int32) (x1 : Int32) (x2 : Int32) (x3 : Int64) : Option (Int64 × (List Int32) × (List Int32) × (List Int32) × (List Int32)) := ((own_copyL lfa (0 : Int32) v_qca (0 : Int32) nn).bind fun u4 => ((F14_23 40).1 nn lfa lhd ltw v_qre v_qlv v_qai u4 x1 x2 x3 (0 : Int64) x1))
set_option maxRecDepth 65536 in
set_option maxHeartbeats 40000000 in
theorem b14_0 {p : Program} {l : Launch} {e : Env} {s : State} {m : MethodId} {args : Array Value} {below : List Frame} {meth : Method} {c : Code} {Z : State} {a0 : Array Value} {h0 : Heap} {n0 : Nat} {P : Option Value → Heap → List Loc → Prop} (hw : ∀ d ∈ tables_1, d.before a0 Z = true) (C : own_Ctx p s m meth c Z (⟨"com/example/gridfare/gridfare/engine/ResidualNetwork", "sendBlockingFlow", "(IIJ)J"⟩ : MethodName) prog_42_method_7_code 10 (some .long)) (Z0 : n0 ≤ h0.size) {o0 : Nat} {qfa : Nat} {qhd : Nat} {qtw : Nat} {qre : Nat} {qlv : Nat} {qai : Nat} {qca : Nat} {nn : Int32} {lfa : List Int32} {lhd : List Int32} {ltw : List Int32} (rr : Int64 × (List Int32) × (List Int32) × (List Int32) × (List Int32)) (hP : ∀ v h L, Fr n0 L → Keep h0 h [qre, qlv, qai, qca] → E14 Z h0 o0 qfa qhd qtw qre qlv qai qca nn lfa lhd ltw rr v h → P v h L)
    {T : State} {locs : List Loc} {h : Heap} {v_qre : List Int32} {v_qlv : List Int32} {v_qai : List Int32} {v_qca : List Int32} (X : Stand p l e rmR14 s m args below meth c T locs 0 0) (e0 : T.heap = h) (N : Fr n0 locs) (K : Keep h0 h [qre, qlv, qai, qca]) (o_o0_qfa : o0 < qfa) (o_qfa_qhd : qfa < qhd) (o_qhd_qtw : qhd < qtw) (o_qtw_qre : qtw < qre) (o_qre_qlv : qre < qlv) (o_qlv_qai : qlv < qai) (o_qai_qca : qai < qca) (g_o0 : n0 ≤ o0) (E_o0 : Exa Z h o0 "com/example/gridfare/gridfare/engine/ResidualNetwork") (Fo0_8 : Fld Z h o0 "com/example/gridfare/gridfare/engine/ResidualNetwork" "nodes" "I" (.int nn)) (Fo0_a : Fld Z h o0 "com/example/gridfare/gridfare/engine/ResidualNetwork" "firstArc" "[I" (.ref qfa)) (Fo0_c : Fld Z h o0 "com/example/gridfare/gridfare/engine/ResidualNetwork" "head" "[I" (.ref qhd)) (Fo0_d : Fld Z h o0 "com/example/gridfare/gridfare/engine/ResidualNetwork" "twin" "[I" (.ref qtw)) (Fo0_e : Fld Z h o0 "com/example/gridfare/gridfare/engine/ResidualNetwork" "residual" "[I" (.ref qre)) (Fo0_10 : Fld Z h o0 "com/example/gridfare/gridfare/engine/ResidualNetwork" "level" "[I" (.ref qlv)) (Fo0_12 : Fld Z h o0 "com/example/gridfare/gridfare/engine/ResidualNetwork" "arcInto" "[I" (.ref qai)) (Fo0_1b : Fld Z h o0 "com/example/gridfare/gridfare/engine/ResidualNetwork" "currentArc" "[I" (.ref qca)) (V_qfa : own_AI Z h qfa .int lfa) (V_qhd : own_AI Z h qhd .int lhd) (V_qtw : own_AI Z h qtw .int ltw) (V_qre : own_AI Z h qre .int v_qre) (V_qlv : own_AI Z h qlv .int v_qlv) (V_qai : own_AI Z h qai .int v_qai) (V_qca : own_AI Z h qca .int v_qca) (x1 : Int32) (x2 : Int32) (x3 : Int64) (hv : f14_0 nn lfa lhd ltw v_qre v_qlv v_qai v_qca x1 x2 x3 = some rr) :
    own_WP p e below (own_Q s P rmR14.cells rmR14.slots) T (mkF m 0 #[.val (.ref o0), .val (.int x1), .val (.int x2), .val (.long x3), .second, .unset, .unset, .unset, .unset, .unset] []) := by
  obtain ⟨hx, hZ, hby, hml, hown, hnm, hret, hlk⟩ := id C
  replace hown : s.vm.findClass "com/example/gridfare/gridfare/engine/ResidualNetwork" = some m.cls := hown
  unfold f14_0 at hv
  show own_WP p e below _ T (mkF m 0 #[.val (.ref o0), .val (.int x1), .val (.int x2), .val (.long x3), .second, .unset, .unset, .unset, .unset, .unset] [])
  refine own_go (fun _ => XS.aloadN X.here hx rfl (hb hby d14_0) rfl rfl) ?_
  show own_WP p e below _ T (mkF m 1 _ [(.ref o0)])
  obtain ⟨T1, X1, e1, st1⟩ := getF X hx hZ hown (host := "") (Or.inl (hw _ (List.mem_of_getElem? (i := 28) rfl))) Via.refl e0 Fo0_a (g := (mkF m 1 #[.val (.ref o0), .val (.int x1), .val (.int x2), .val (.long x3), .second, .unset, .unset, .unset, .unset, .unset] [(.ref o0)])) rfl rfl (hb hby d14_1)
  refine own_go st1 ?_
  clear st1 X e0
  show own_WP p e below _ T1 (mkF m 4 _ [(.ref qfa)])
  refine own_go (fun _ => XS.iconst X1.here hx rfl (hb hby d14_4)) ?_
  show own_WP p e below _ T1 (mkF m 5 _ [(.int (0 : Int32)), (.ref qfa)])
  refine own_go (fun _ => XS.aloadN X1.here hx rfl (hb hby d14_5) rfl rfl) ?_
  show own_WP p e below _ T1 (mkF m 6 _ [(.ref o0), (.int (0 : Int32)), (.ref qfa)])
  obtain ⟨T2, X2, e2, st2⟩ := getF X1 hx hZ hown (host := "") (Or.inl (hw _ (List.mem_of_getElem? (i := 112) rfl))) Via.refl e1 Fo0_1b (g := (mkF m 6 #[.val (.ref o0), .val (.int x1), .val (.int x2), .val (.long x3), .second, .unset, .unset, .unset, .unset, .unset] [(.ref o0), (.int (0 : Int32)), (.ref qfa)])) rfl rfl (hb hby d14_6)
  refine own_go st2 ?_
  clear st2 X1 e1
  show own_WP p e below _ T2 (mkF m 9 _ [(.ref qca), (.int (0 : Int32)), (.ref qfa)])
  refine own_go (fun _ => XS.iconst X2.here hx rfl (hb hby d14_9)) ?_
  show own_WP p e below _ T2 (mkF m 10 _ [(.int (0 : Int32)), (.ref qca), (.int (0 : Int32)), (.ref qfa)])
  refine own_go (fun _ => XS.aloadN X2.here hx rfl (hb hby d14_10) rfl rfl) ?_
  show own_WP p e below _ T2 (mkF m 11 _ [(.ref o0), (.int (0 : Int32)), (.ref qca), (.int (0 : Int32)), (.ref qfa)])
  obtain ⟨T3, X3, e3, st3⟩ := getF X2 hx hZ hown (host := "") (Or.inl (hw _ (List.mem_of_getElem? (i := 20) rfl))) Via.refl e2 Fo0_8 (g := (mkF m 11 #[.val (.ref o0), .val (.int x1), .val (.int x2), .val (.long x3), .second, .unset, .unset, .unset, .unset, .unset] [(.ref o0), (.int (0 : Int32)), (.ref qca), (.int (0 : Int32)), (.ref qfa)])) rfl rfl (hb hby d14_11)
  refine own_go st3 ?_
  clear st3 X2 e2
  show own_WP p e below _ T3 (mkF m 14 #[.val (.ref o0), .val (.int x1), .val (.int x2), .val (.long x3), .second, .unset, .unset, .unset, .unset, .unset] [(.int nn), (.int (0 : Int32)), (.ref qca), (.int (0 : Int32)), (.ref qfa)])
  obtain ⟨u4, hg4, hv⟩ := own_bind hv
  obtain ⟨T4, h4, L4, X4, e4, N4, K4, V'4, st4⟩ := own_copy X3 C e3 (hw _ (List.mem_of_getElem? (i := 128) rfl)) (hw _ (List.mem_of_getElem? (i := 50) rfl)) (hw _ (List.mem_of_getElem? (i := 48) rfl)) (hw _ (List.mem_of_getElem? (i := 49) rfl)) rfl V_qfa V_qca hg4 N (by omega) (pc := 14) (Ls := #[.val (.ref o0), .val (.int x1), .val (.int x2), .val (.long x3), .second, .unset, .unset, .unset, .unset, .unset]) rfl (rest := []) (hb hby d14_14) (by decide) (W := 0) (Nat.le_of_ble_eq_true rfl) (by decide)
  refine own_go st4 ?_
  replace E_o0 := E_o0.keep K4
  have nq : o0 ∉ ([qca] : List Addr) := (ninS (own_ne (by omega)) nin0)
  replace Fo0_8 := Fo0_8.keep K4 nq
  replace Fo0_a := Fo0_a.keep K4 nq
  replace Fo0_c := Fo0_c.keep K4 nq
  replace Fo0_d := Fo0_d.keep K4 nq
  replace Fo0_e := Fo0_e.keep K4 nq
  replace Fo0_10 := Fo0_10.keep K4 nq
  replace Fo0_12 := Fo0_12.keep K4 nq
  replace Fo0_1b := Fo0_1b.keep K4 nq
  clear nq
  replace V_qfa := V_qfa.keep K4 (ninS (own_ne (by omega)) nin0)
  replace V_qhd := V_qhd.keep K4 (ninS (own_ne (by omega)) nin0)
  replace V_qtw := V_qtw.keep K4 (ninS (own_ne (by omega)) nin0)
  replace V_qre := V_qre.keep K4 (ninS (own_ne (by omega)) nin0)
  replace V_qlv := V_qlv.keep K4 (ninS (own_ne (by omega)) nin0)
  replace V_qai := V_qai.keep K4 (ninS (own_ne (by omega)) nin0)
  replace V_qca := V'4
  clear V'4
  replace N := N4
  replace K := K.trans K4 (allS (Or.inl (List.mem_of_getElem? (i := 3) rfl)) all0)
  show own_WP p e below _ T4 (mkF m 17 _ [])
  refine own_go (fun _ => XS.lconst X4.here hx rfl (hb hby d14_17)) ?_
  show own_WP p e below _ T4 (mkF m 18 #[.val (.ref o0), .val (.int x1), .val (.int x2), .val (.long x3), .second, .unset, .unset, .unset, .unset, .unset] [(.long (0 : Int64))])
  refine own_go (fun _ => XS.lstore X4.here hx rfl (hb hby d14_18) rfl rfl) ?_
  show own_WP p e below _ T4 (mkF m 20 #[.val (.ref o0), .val (.int x1), .val (.int x2), .val (.long x3), .second, .val (.long (0 : Int64)), .second, .unset, .unset, .unset] [])
  refine own_go (fun _ => XS.iloadN X4.here hx rfl (hb hby d14_20) rfl) ?_
  show own_WP p e below _ T4 (mkF m 21 #[.val (.ref o0), .val (.int x1), .val (.int x2), .val (.long x3), .second, .val (.long (0 : Int64)), .second, .unset, .unset, .unset] [(.int x1)])
  refine own_go (fun _ => XS.istore X4.here hx rfl (hb hby d14_21) rfl rfl) ?_
  show own_WP p e below _ T4 (mkF m 23 #[.val (.ref o0), .val (.int x1), .val (.int x2), .val (.long x3), .second, .val (.long (0 : Int64)), .second, .val (.int x1), .unset, .unset] [])
  exact (bG14_23 hw C Z0 rr hP 40).1 X4 e4 N K o_o0_qfa o_qfa_qhd o_qhd_qtw o_qtw_qre o_qre_qlv o_qlv_qai o_qai_qca g_o0 E_o0 Fo0_8 Fo0_a Fo0_c Fo0_d Fo0_e Fo0_10 Fo0_12 Fo0_1b V_qfa V_qhd V_qtw V_qre V_qlv V_qai V_qca x1 x2 x3 (0 : Int64) x1 (.unset) One.u (.unset) One.u hv
theorem ef14 (m : MethodId) (o0 : Nat) (x1 : Int32) (x2 : Int32) (x3 : Int64) : entryFrame m #[(.ref o0), (.int x1), (.int x2), (.long x3)] 10 = (mkF m 0 #[.val (.ref o0), .val (.int x1), .val (.int x2), .val (.long x3), .second, .unset, .unset, .unset, .unset, .unset] []) := by first | (simp [entryFrame, mkF, argsToLocals, Value.category]; done) | rfl
theorem pd14 : parseMethodDescriptor "(IIJ)J" = some ⟨[.int, .int, .long], some .long⟩ := by decide +kernel
theorem pn14 : plainFor (⟨"com/example/gridfare/gridfare/engine/ResidualNetwork", "sendBlockingFlow", "(IIJ)J"⟩ : MethodName) = true := plainFor_of_name (by first | (simp [plainName, overriddenIn]; done) | decide +kernel)
theorem rm14 (l : Launch) (Z : State) (a0 : Array Value) (hw : ∀ d ∈ tables_1, d.before a0 Z = true) (n0 : Nat) (h0 : Heap) (Z0 : n0 ≤ h0.size) {o0 : Nat} {qfa : Nat} {qhd : Nat} {qtw : Nat} {qre : Nat} {qlv : Nat} {qai : Nat} {qca : Nat} {nn : Int32} {lfa : List Int32} {lhd : List Int32} {ltw : List Int32} {v_qre : List Int32} {v_qlv : List Int32} {v_qai : List Int32} {v_qca : List Int32} (o_o0_qfa : o0 < qfa) (o_qfa_qhd : qfa < qhd) (o_qhd_qtw : qhd < qtw) (o_qtw_qre : qtw < qre) (o_qre_qlv : qre < qlv) (o_qlv_qai : qlv < qai) (o_qai_qca : qai < qca) (g_o0 : n0 ≤ o0) (E_o0 : Exa Z h0 o0 "com/example/gridfare/gridfare/engine/ResidualNetwork") (Fo0_8 : Fld Z h0 o0 "com/example/gridfare/gridfare/engine/ResidualNetwork" "nodes" "I" (.int nn)) (Fo0_a : Fld Z h0 o0 "com/example/gridfare/gridfare/engine/ResidualNetwork" "firstArc" "[I" (.ref qfa)) (Fo0_c : Fld Z h0 o0 "com/example/gridfare/gridfare/engine/ResidualNetwork" "head" "[I" (.ref qhd)) (Fo0_d : Fld Z h0 o0 "com/example/gridfare/gridfare/engine/ResidualNetwork" "twin" "[I" (.ref qtw)) (Fo0_e : Fld Z h0 o0 "com/example/gridfare/gridfare/engine/ResidualNetwork" "residual" "[I" (.ref qre)) (Fo0_10 : Fld Z h0 o0 "com/example/gridfare/gridfare/engine/ResidualNetwork" "level" "[I" (.ref qlv)) (Fo0_12 : Fld Z h0 o0 "com/example/gridfare/gridfare/engine/ResidualNetwork" "arcInto" "[I" (.ref qai)) (Fo0_1b : Fld Z h0 o0 "com/example/gridfare/gridfare/engine/ResidualNetwork" "currentArc" "[I" (.ref qca)) (V_qfa : own_AI Z h0 qfa .int lfa) (V_qhd : own_AI Z h0 qhd .int lhd) (V_qtw : own_AI Z h0 qtw .int ltw) (V_qre : own_AI Z h0 qre .int v_qre) (V_qlv : own_AI Z h0 qlv .int v_qlv) (V_qai : own_AI Z h0 qai .int v_qai) (V_qca : own_AI Z h0 qca .int v_qca) (x1 : Int32) (x2 : Int32) (x3 : Int64)  (rr : Int64 × (List Int32) × (List Int32) × (List Int32) × (List Int32)) (hf : f14_0 nn lfa lhd ltw v_qre v_qlv v_qai v_qca x1 x2 x3 = some rr) :
    own_Met l Z (⟨"com/example/gridfare/gridfare/engine/ResidualNetwork", "sendBlockingFlow", "(IIJ)J"⟩ : MethodName) prog_42_method_7_code 10 (some .long) [] rmR14 #[(.ref o0), (.int x1), (.int x2), (.long x3)] h0 (fun v h L => Fr n0 L ∧ Keep h0 h [qre, qlv, qai, qca] ∧ E14 Z h0 o0 qfa qhd qtw qre qlv qai qca nn lfa lhd ltw rr v h) := by
  refine own_body pn14 ?_
  intro p e s m below meth c s₁ C X e0
  exact own_cast (ef14 m o0 x1 x2 x3) (b14_0 hw C Z0 rr (fun v h L a b c => ⟨a, b, c⟩) X e0 (Fr.nil n0) (Keep.refl h0 [qre, qlv, qai, qca]) o_o0_qfa o_qfa_qhd o_qhd_qtw o_qtw_qre o_qre_qlv o_qlv_qai o_qai_qca g_o0 E_o0 Fo0_8 Fo0_a Fo0_c Fo0_d Fo0_e Fo0_10 Fo0_12 Fo0_1b V_qfa V_qhd V_qtw V_qre V_qlv V_qai V_qca x1 x2 x3 hf)
theorem d13_0 : decode prog_42_method_6_code 0 = .ok (.aload_n 0, 1) := by decide +kernel
theorem d13_1 : decode prog_42_method_6_code 1 = .ok (.getfield 49, 3) := by decide +kernel
theorem d13_4 : decode prog_42_method_6_code 4 = .ok (.iconst (-1), 1) := by decide +kernel
theorem d13_5 : decode prog_42_method_6_code 5 = .ok (.invokestatic 142, 3) := by decide +kernel
theorem d13_8 : decode prog_42_method_6_code 8 = .ok (.aload_n 0, 1) := by decide +kernel
theorem d13_9 : decode prog_42_method_6_code 9 = .ok (.getfield 49, 3) := by decide +kernel
theorem d13_12 : decode prog_42_method_6_code 12 = .ok (.iload_n 1, 1) := by decide +kernel
theorem d13_13 : decode prog_42_method_6_code 13 = .ok (.iconst 0, 1) := by decide +kernel
theorem d13_14 : decode prog_42_method_6_code 14 = .ok (.iastore, 1) := by decide +kernel
theorem d13_15 : decode prog_42_method_6_code 15 = .ok (.aload_n 0, 1) := by decide +kernel
theorem d13_16 : decode prog_42_method_6_code 16 = .ok (.getfield 52, 3) := by decide +kernel
theorem d13_19 : decode prog_42_method_6_code 19 = .ok (.iconst 0, 1) := by decide +kernel
theorem d13_20 : decode prog_42_method_6_code 20 = .ok (.iload_n 1, 1) := by decide +kernel
theorem d13_21 : decode prog_42_method_6_code 21 = .ok (.iastore, 1) := by decide +kernel
theorem d13_22 : decode prog_42_method_6_code 22 = .ok (.iconst 1, 1) := by decide +kernel
theorem d13_23 : decode prog_42_method_6_code 23 = .ok (.istore_n 3, 1) := by decide +kernel
theorem d13_24 : decode prog_42_method_6_code 24 = .ok (.iconst 0, 1) := by decide +kernel
theorem d13_25 : decode prog_42_method_6_code 25 = .ok (.istore 4, 2) := by decide +kernel
theorem d13_27 : decode prog_42_method_6_code 27 = .ok (.iload 4, 2) := by decide +kernel
theorem d13_29 : decode prog_42_method_6_code 29 = .ok (.iload_n 3, 1) := by decide +kernel
theorem d13_30 : decode prog_42_method_6_code 30 = .ok (.if_icmp .ge 114, 3) := by decide +kernel
theorem d13_33 : decode prog_42_method_6_code 33 = .ok (.aload_n 0, 1) := by decide +kernel
theorem d13_34 : decode prog_42_method_6_code 34 = .ok (.getfield 49, 3) := by decide +kernel
theorem d13_37 : decode prog_42_method_6_code 37 = .ok (.iload_n 2, 1) := by decide +kernel
theorem d13_38 : decode prog_42_method_6_code 38 = .ok (.iaload, 1) := by decide +kernel
theorem d13_39 : decode prog_42_method_6_code 39 = .ok (.iconst (-1), 1) := by decide +kernel
theorem d13_40 : decode prog_42_method_6_code 40 = .ok (.if_icmp .ne 104, 3) := by decide +kernel
theorem d13_43 : decode prog_42_method_6_code 43 = .ok (.aload_n 0, 1) := by decide +kernel
theorem d13_44 : decode prog_42_method_6_code 44 = .ok (.getfield 52, 3) := by decide +kernel
theorem d13_47 : decode prog_42_method_6_code 47 = .ok (.iload 4, 2) := by decide +kernel
theorem d13_49 : decode prog_42_method_6_code 49 = .ok (.iaload, 1) := by decide +kernel
theorem d13_50 : decode prog_42_method_6_code 50 = .ok (.istore 5, 2) := by decide +kernel
theorem d13_52 : decode prog_42_method_6_code 52 = .ok (.aload_n 0, 1) := by decide +kernel
theorem d13_53 : decode prog_42_method_6_code 53 = .ok (.getfield 23, 3) := by decide +kernel
theorem d13_56 : decode prog_42_method_6_code 56 = .ok (.iload 5, 2) := by decide +kernel
theorem d13_58 : decode prog_42_method_6_code 58 = .ok (.iaload, 1) := by decide +kernel
theorem d13_59 : decode prog_42_method_6_code 59 = .ok (.istore 6, 2) := by decide +kernel
theorem d13_61 : decode prog_42_method_6_code 61 = .ok (.iload 6, 2) := by decide +kernel
theorem d13_63 : decode prog_42_method_6_code 63 = .ok (.aload_n 0, 1) := by decide +kernel
theorem d13_64 : decode prog_42_method_6_code 64 = .ok (.getfield 23, 3) := by decide +kernel
theorem d13_67 : decode prog_42_method_6_code 67 = .ok (.iload 5, 2) := by decide +kernel
theorem d13_69 : decode prog_42_method_6_code 69 = .ok (.iconst 1, 1) := by decide +kernel
theorem d13_70 : decode prog_42_method_6_code 70 = .ok (.iadd, 1) := by decide +kernel
theorem d13_71 : decode prog_42_method_6_code 71 = .ok (.iaload, 1) := by decide +kernel
theorem d13_72 : decode prog_42_method_6_code 72 = .ok (.if_icmp .ge 66, 3) := by decide +kernel
theorem d13_75 : decode prog_42_method_6_code 75 = .ok (.aload_n 0, 1) := by decide +kernel
theorem d13_76 : decode prog_42_method_6_code 76 = .ok (.getfield 30, 3) := by decide +kernel
theorem d13_79 : decode prog_42_method_6_code 79 = .ok (.iload 6, 2) := by decide +kernel
theorem d13_81 : decode prog_42_method_6_code 81 = .ok (.iaload, 1) := by decide +kernel
theorem d13_82 : decode prog_42_method_6_code 82 = .ok (.istore 7, 2) := by decide +kernel
theorem d13_84 : decode prog_42_method_6_code 84 = .ok (.aload_n 0, 1) := by decide +kernel
theorem d13_85 : decode prog_42_method_6_code 85 = .ok (.getfield 49, 3) := by decide +kernel
theorem d13_88 : decode prog_42_method_6_code 88 = .ok (.iload 7, 2) := by decide +kernel
theorem d13_90 : decode prog_42_method_6_code 90 = .ok (.iaload, 1) := by decide +kernel
theorem d13_91 : decode prog_42_method_6_code 91 = .ok (.iconst (-1), 1) := by decide +kernel
theorem d13_92 : decode prog_42_method_6_code 92 = .ok (.if_icmp .ne 40, 3) := by decide +kernel
theorem d13_95 : decode prog_42_method_6_code 95 = .ok (.aload_n 0, 1) := by decide +kernel
theorem d13_96 : decode prog_42_method_6_code 96 = .ok (.getfield 36, 3) := by decide +kernel
theorem d13_99 : decode prog_42_method_6_code 99 = .ok (.iload 6, 2) := by decide +kernel
theorem d13_101 : decode prog_42_method_6_code 101 = .ok (.iaload, 1) := by decide +kernel
theorem d13_102 : decode prog_42_method_6_code 102 = .ok (.ifCond .le 30, 3) := by decide +kernel
theorem d13_105 : decode prog_42_method_6_code 105 = .ok (.aload_n 0, 1) := by decide +kernel
theorem d13_106 : decode prog_42_method_6_code 106 = .ok (.getfield 49, 3) := by decide +kernel
theorem d13_109 : decode prog_42_method_6_code 109 = .ok (.iload 7, 2) := by decide +kernel
theorem d13_111 : decode prog_42_method_6_code 111 = .ok (.aload_n 0, 1) := by decide +kernel
theorem d13_112 : decode prog_42_method_6_code 112 = .ok (.getfield 49, 3) := by decide +kernel
theorem d13_115 : decode prog_42_method_6_code 115 = .ok (.iload 5, 2) := by decide +kernel
theorem d13_117 : decode prog_42_method_6_code 117 = .ok (.iaload, 1) := by decide +kernel
theorem d13_118 : decode prog_42_method_6_code 118 = .ok (.iconst 1, 1) := by decide +kernel
theorem d13_119 : decode prog_42_method_6_code 119 = .ok (.iadd, 1) := by decide +kernel
theorem d13_120 : decode prog_42_method_6_code 120 = .ok (.iastore, 1) := by decide +kernel
theorem d13_121 : decode prog_42_method_6_code 121 = .ok (.aload_n 0, 1) := by decide +kernel
theorem d13_122 : decode prog_42_method_6_code 122 = .ok (.getfield 52, 3) := by decide +kernel
theorem d13_125 : decode prog_42_method_6_code 125 = .ok (.iload_n 3, 1) := by decide +kernel
theorem d13_126 : decode prog_42_method_6_code 126 = .ok (.iload 7, 2) := by decide +kernel
theorem d13_128 : decode prog_42_method_6_code 128 = .ok (.iastore, 1) := by decide +kernel
theorem d13_129 : decode prog_42_method_6_code 129 = .ok (.iinc 3 1, 3) := by decide +kernel
theorem d13_132 : decode prog_42_method_6_code 132 = .ok (.iinc 6 1, 3) := by decide +kernel
theorem d13_135 : decode prog_42_method_6_code 135 = .ok (.goto (-74), 3) := by decide +kernel
theorem d13_138 : decode prog_42_method_6_code 138 = .ok (.iinc 4 1, 3) := by decide +kernel
theorem d13_141 : decode prog_42_method_6_code 141 = .ok (.goto (-114), 3) := by decide +kernel
theorem d13_144 : decode prog_42_method_6_code 144 = .ok (.aload_n 0, 1) := by decide +kernel
theorem d13_145 : decode prog_42_method_6_code 145 = .ok (.getfield 49, 3) := by decide +kernel
theorem d13_148 : decode prog_42_method_6_code 148 = .ok (.iload_n 2, 1) := by decide +kernel
theorem d13_149 : decode prog_42_method_6_code 149 = .ok (.iaload, 1) := by decide +kernel
theorem d13_150 : decode prog_42_method_6_code 150 = .ok (.iconst (-1), 1) := by decide +kernel
theorem d13_151 : decode prog_42_method_6_code 151 = .ok (.if_icmp .eq 7, 3) := by decide +kernel
theorem d13_154 : decode prog_42_method_6_code 154 = .ok (.iconst 1, 1) := by decide +kernel
theorem d13_155 : decode prog_42_method_6_code 155 = .ok (.goto 4, 3) := by decide +kernel
theorem d13_158 : decode prog_42_method_6_code 158 = .ok (.iconst 0, 1) := by decide +kernel
theorem d13_159 : decode prog_42_method_6_code 159 = .ok (.ireturn, 1) := by decide +kernel
def rmR13 : Room := { frames := 1, cells := 0, slots := 0, locals := 15 }
def E13 (Z : State) (h0 : Heap) (o0 : Nat) (qfa : Nat) (qhd : Nat) (qre : Nat) (qlv : Nat) (qld : Nat) (lfa : List Int32) (lhd : List Int32) (lre : List Int32) (rr : Int32 × (List Int32) × (List Int32)) (v : Option Value) (h : Heap) : Prop := v = some (.int (rr.1)) ∧ own_AI Z h qlv .int (rr.2.1) ∧ own_AI Z h qld .int (rr.2.2)
def f13_144 (v_qlv : List Int32) (v_qld : List Int32) (x2 : Int32) : Option (Int32 × (List Int32) × (List Int32)) := ((own_get v_qlv x2).bind fun w14 => (if w14 = (-1 : Int32) then (some ((0 : Int32), v_qlv, v_qld)) else (some ((1 : Int32), v_qlv, v_qld))))
set_option maxRecDepth 65536 in
set_option maxHeartbeats 40000000 in
theorem b13_144 {p : Program} {l : Launch} {e : Env} {s : State} {m : MethodId} {args : Array Value} {below : List Frame} {meth : Method} {c : Code} {Z : State} {a0 : Array Value} {h0 : Heap} {n0 : Nat} {P : Option Value → Heap → List Loc → Prop} (hw : ∀ d ∈ tables_1, d.before a0 Z = true) (C : own_Ctx p s m meth c Z (⟨"com/example/gridfare/gridfare/engine/ResidualNetwork", "levelFrom", "(II)Z"⟩ : MethodName) prog_42_method_6_code 8 (some .boolean)) (Z0 : n0 ≤ h0.size) {o0 : Nat} {qfa : Nat} {qhd : Nat} {qre : Nat} {qlv : Nat} {qld : Nat} {lfa : List Int32} {lhd : List Int32} {lre : List Int32} (rr : Int32 × (List Int32) × (List Int32)) (hP : ∀ v h L, Fr n0 L → Keep h0 h [qlv, qld] → E13 Z h0 o0 qfa qhd qre qlv qld lfa lhd lre rr v h → P v h L)
    {T : State} {locs : List Loc} {h : Heap} {v_qlv : List Int32} {v_qld : List Int32} (X : Stand p l e rmR13 s m args below meth c T locs 0 0) (e0 : T.heap = h) (N : Fr n0 locs) (K : Keep h0 h [qlv, qld]) (o_o0_qfa : o0 < qfa) (o_qfa_qhd : qfa < qhd) (o_qhd_qre : qhd < qre) (o_qre_qlv : qre < qlv) (o_qlv_qld : qlv < qld) (g_o0 : n0 ≤ o0) (E_o0 : Exa Z h o0 "com/example/gridfare/gridfare/engine/ResidualNetwork") (Fo0_a : Fld Z h o0 "com/example/gridfare/gridfare/engine/ResidualNetwork" "firstArc" "[I" (.ref qfa)) (Fo0_c : Fld Z h o0 "com/example/gridfare/gridfare/engine/ResidualNetwork" "head" "[I" (.ref qhd)) (Fo0_e : Fld Z h o0 "com/example/gridfare/gridfare/engine/ResidualNetwork" "residual" "[I" (.ref qre)) (Fo0_10 : Fld Z h o0 "com/example/gridfare/gridfare/engine/ResidualNetwork" "level" "[I" (.ref qlv)) (Fo0_11 : Fld Z h o0 "com/example/gridfare/gridfare/engine/ResidualNetwork" "levelled" "[I" (.ref qld)) (V_qfa : own_AI Z h qfa .int lfa) (V_qhd : own_AI Z h qhd .int lhd) (V_qre : own_AI Z h qre .int lre) (V_qlv : own_AI Z h qlv .int v_qlv) (V_qld : own_AI Z h qld .int v_qld) (x1 : Int32) (x2 : Int32) (x3 : Int32) (x4 : Int32) (s5 : Slot) (hs5 : One s5) (s6 : Slot) (hs6 : One s6) (s7 : Slot) (hs7 : One s7) (hv : f13_144 v_qlv v_qld x2 = some rr) :
    own_WP p e below (own_Q s P rmR13.cells rmR13.slots) T (mkF m 144 #[.val (.ref o0), .val (.int x1), .val (.int x2), .val (.int x3), .val (.int x4), s5, s6, s7] []) := by
  obtain ⟨hx, hZ, hby, hml, hown, hnm, hret, hlk⟩ := id C
  replace hown : s.vm.findClass "com/example/gridfare/gridfare/engine/ResidualNetwork" = some m.cls := hown
  unfold f13_144 at hv
  show own_WP p e below _ T (mkF m 144 #[.val (.ref o0), .val (.int x1), .val (.int x2), .val (.int x3), .val (.int x4), s5, s6, s7] [])
  refine own_go (fun _ => XS.aloadN X.here hx rfl (hb hby d13_144) rfl rfl) ?_
  show own_WP p e below _ T (mkF m 145 _ [(.ref o0)])
  obtain ⟨T13, X13, e13, st13⟩ := getF X hx hZ hown (host := "") (Or.inl (hw _ (List.mem_of_getElem? (i := 51) rfl))) Via.refl e0 Fo0_10 (g := (mkF m 145 #[.val (.ref o0), .val (.int x1), .val (.int x2), .val (.int x3), .val (.int x4), s5, s6, s7] [(.ref o0)])) rfl rfl (hb hby d13_145)
  refine own_go st13 ?_
  clear st13 X e0
  show own_WP p e below _ T13 (mkF m 148 _ [(.ref qlv)])
  refine own_go (fun _ => XS.iloadN X13.here hx rfl (hb hby d13_148) rfl) ?_
  show own_WP p e below _ T13 (mkF m 149 _ [(.int x2), (.ref qlv)])
  obtain ⟨w14, hg14, hv⟩ := own_bind hv
  refine own_go (own_iaload X13 C e13 V_qlv hg14 (hb hby d13_149)) ?_
  show own_WP p e below _ T13 (mkF m 150 _ [(.int w14)])
  refine own_go (fun _ => XS.iconst X13.here hx rfl (hb hby d13_150)) ?_
  show own_WP p e below _ T13 (mkF m 151 _ [(.int (-1 : Int32)), (.int w14)])
  by_cases h151 : w14 = (-1 : Int32)
  · replace hv := (if_pos h151).symm.trans hv
    refine own_go (fun _ => XS.icmpYes X13.here hx rfl (pc0 := 151) (pc' := 158) rfl (hb hby d13_151) rfl (XT.ii_eq_t h151) (by decide) (by decide)) ?_
    show own_WP p e below _ T13 (mkF m 158 #[.val (.ref o0), .val (.int x1), .val (.int x2), .val (.int x3), .val (.int x4), s5, s6, s7] [])
    refine own_go (fun _ => XS.iconst X13.here hx rfl (hb hby d13_158)) ?_
    show own_WP p e below _ T13 (mkF m 159 #[.val (.ref o0), .val (.int x1), .val (.int x2), .val (.int x3), .val (.int x4), s5, s6, s7] [(.int (0 : Int32))])
    obtain rfl := Option.some.inj hv
    exact own_retN X13 C (by simp) (hb hby d13_159) (by rw [e13]; exact hP _ _ _ N K ⟨rfl, V_qlv, V_qld⟩) (by decide) (by decide)
  · replace hv := (if_neg h151).symm.trans hv
    refine own_go (fun _ => XS.icmpNo X13.here hx rfl (hb hby d13_151) rfl (XT.ii_eq_f h151)) ?_
    show own_WP p e below _ T13 (mkF m 154 #[.val (.ref o0), .val (.int x1), .val (.int x2), .val (.int x3), .val (.int x4), s5, s6, s7] [])
    refine own_go (fun _ => XS.iconst X13.here hx rfl (hb hby d13_154)) ?_
    show own_WP p e below _ T13 (mkF m 155 _ [(.int (1 : Int32))])
    refine own_go (fun _ => XS.goto X13.here hx rfl (pc0 := 155) (pc' := 159) rfl (hb hby d13_155) (by decide) (by decide)) ?_
    show own_WP p e below _ T13 (mkF m 159 #[.val (.ref o0), .val (.int x1), .val (.int x2), .val (.int x3), .val (.int x4), s5, s6, s7] [(.int (1 : Int32))])
    obtain rfl := Option.some.inj hv
    exact own_retN X13 C (by simp) (hb hby d13_159) (by rw [e13]; exact hP _ _ _ N K ⟨rfl, V_qlv, V_qld⟩) (by decide) (by decide)
def F13_27 : Nat → ((List Int32) → (List Int32) → (List Int32) → (List Int32) → (List Int32) → Int32 → Int32 → Int32 → Option (Int32 × (List Int32) × (List Int32))) × ((List Int32) → (List Int32) → (List Int32) → (List Int32) → (List Int32) → Int32 → Int32 → Int32 → Int32 → Int32 → Option (Int32 × (List Int32) × (List Int32)))
  | 0 => ((fun _ _ _ _ _ _ _ _ => none), (fun _ _ _ _ _ _ _ _ _ _ => none))
  | k + 1 => ((fun lfa lhd lre v_qlv v_qld x2 x3 x4 => (if x4 < x3 then ((own_get v_qlv x2).bind fun w8 => (if w8 = (-1 : Int32) then ((own_get v_qld x4).bind fun w10 => ((own_get lfa w10).bind fun w12 => ((F13_27 k).2 lfa lhd lre v_qlv v_qld x2 x3 x4 w10 w12))) else (f13_144 v_qlv v_qld x2))) else (f13_144 v_qlv v_qld x2))), (fun lfa lhd lre v_qlv v_qld x2 x3 x4 x5 x6 => ((own_get lfa (x5 + (1 : Int32))).bind fun w16 => (if x6 < w16 then ((own_get lhd x6).bind fun w18 => ((own_get v_qlv w18).bind fun w20 => (if w20 = (-1 : Int32) then ((own_get lre x6).bind fun w22 => (if (0 : Int32) < w22 then ((own_get v_qlv x5).bind fun w25 => ((own_set v_qlv w18 (w25 + (1 : Int32))).bind fun u26 => ((own_set v_qld x3 w18).bind fun u28 => ((F13_27 k).2 lfa lhd lre u26 u28 x2 (x3 + (1 : Int32)) x4 x5 (x6 + (1 : Int32)))))) else ((F13_27 k).2 lfa lhd lre v_qlv v_qld x2 x3 x4 x5 (x6 + (1 : Int32))))) else ((F13_27 k).2 lfa lhd lre v_qlv v_qld x2 x3 x4 x5 (x6 + (1 : Int32)))))) else ((F13_27 k).1 lfa lhd lre v_qlv v_qld x2 x3 (x4 + (1 : Int32)))))))
set_option maxRecDepth 65536 in
set_option maxHeartbeats 40000000 in
theorem bG13_27 {p : Program} {l : Launch} {e : Env} {s : State} {m : MethodId} {args : Array Value} {below : List Frame} {meth : Method} {c : Code} {Z : State} {a0 : Array Value} {h0 : Heap} {n0 : Nat} {P : Option Value → Heap → List Loc → Prop} (hw : ∀ d ∈ tables_1, d.before a0 Z = true) (C : own_Ctx p s m meth c Z (⟨"com/example/gridfare/gridfare/engine/ResidualNetwork", "levelFrom", "(II)Z"⟩ : MethodName) prog_42_method_6_code 8 (some .boolean)) (Z0 : n0 ≤ h0.size) {o0 : Nat} {qfa : Nat} {qhd : Nat} {qre : Nat} {qlv : Nat} {qld : Nat} {lfa : List Int32} {lhd : List Int32} {lre : List Int32} (rr : Int32 × (List Int32) × (List Int32)) (hP : ∀ v h L, Fr n0 L → Keep h0 h [qlv, qld] → E13 Z h0 o0 qfa qhd qre qlv qld lfa lhd lre rr v h → P v h L) (k : Nat) :
    (∀ {T : State} {locs : List Loc} {h : Heap} {v_qlv : List Int32} {v_qld : List Int32} (X : Stand p l e rmR13 s m args below meth c T locs 0 0) (e0 : T.heap = h) (N : Fr n0 locs) (K : Keep h0 h [qlv, qld]) (o_o0_qfa : o0 < qfa) (o_qfa_qhd : qfa < qhd) (o_qhd_qre : qhd < qre) (o_qre_qlv : qre < qlv) (o_qlv_qld : qlv < qld) (g_o0 : n0 ≤ o0) (E_o0 : Exa Z h o0 "com/example/gridfare/gridfare/engine/ResidualNetwork") (Fo0_a : Fld Z h o0 "com/example/gridfare/gridfare/engine/ResidualNetwork" "firstArc" "[I" (.ref qfa)) (Fo0_c : Fld Z h o0 "com/example/gridfare/gridfare/engine/ResidualNetwork" "head" "[I" (.ref qhd)) (Fo0_e : Fld Z h o0 "com/example/gridfare/gridfare/engine/ResidualNetwork" "residual" "[I" (.ref qre)) (Fo0_10 : Fld Z h o0 "com/example/gridfare/gridfare/engine/ResidualNetwork" "level" "[I" (.ref qlv)) (Fo0_11 : Fld Z h o0 "com/example/gridfare/gridfare/engine/ResidualNetwork" "levelled" "[I" (.ref qld)) (V_qfa : own_AI Z h qfa .int lfa) (V_qhd : own_AI Z h qhd .int lhd) (V_qre : own_AI Z h qre .int lre) (V_qlv : own_AI Z h qlv .int v_qlv) (V_qld : own_AI Z h qld .int v_qld) (x1 : Int32) (x2 : Int32) (x3 : Int32) (x4 : Int32) (s5 : Slot) (hs5 : One s5) (s6 : Slot) (hs6 : One s6) (s7 : Slot) (hs7 : One s7) (hv : (F13_27 k).1 lfa lhd lre v_qlv v_qld x2 x3 x4 = some rr), own_WP p e below (own_Q s P rmR13.cells rmR13.slots) T (mkF m 27 #[.val (.ref o0), .val (.int x1), .val (.int x2), .val (.int x3), .val (.int x4), s5, s6, s7] [])) ∧
    (∀ {T : State} {locs : List Loc} {h : Heap} {v_qlv : List Int32} {v_qld : List Int32} (X : Stand p l e rmR13 s m args below meth c T locs 0 0) (e0 : T.heap = h) (N : Fr n0 locs) (K : Keep h0 h [qlv, qld]) (o_o0_qfa : o0 < qfa) (o_qfa_qhd : qfa < qhd) (o_qhd_qre : qhd < qre) (o_qre_qlv : qre < qlv) (o_qlv_qld : qlv < qld) (g_o0 : n0 ≤ o0) (E_o0 : Exa Z h o0 "com/example/gridfare/gridfare/engine/ResidualNetwork") (Fo0_a : Fld Z h o0 "com/example/gridfare/gridfare/engine/ResidualNetwork" "firstArc" "[I" (.ref qfa)) (Fo0_c : Fld Z h o0 "com/example/gridfare/gridfare/engine/ResidualNetwork" "head" "[I" (.ref qhd)) (Fo0_e : Fld Z h o0 "com/example/gridfare/gridfare/engine/ResidualNetwork" "residual" "[I" (.ref qre)) (Fo0_10 : Fld Z h o0 "com/example/gridfare/gridfare/engine/ResidualNetwork" "level" "[I" (.ref qlv)) (Fo0_11 : Fld Z h o0 "com/example/gridfare/gridfare/engine/ResidualNetwork" "levelled" "[I" (.ref qld)) (V_qfa : own_AI Z h qfa .int lfa) (V_qhd : own_AI Z h qhd .int lhd) (V_qre : own_AI Z h qre .int lre) (V_qlv : own_AI Z h qlv .int v_qlv) (V_qld : own_AI Z h qld .int v_qld) (x1 : Int32) (x2 : Int32) (x3 : Int32) (x4 : Int32) (x5 : Int32) (x6 : Int32) (s7 : Slot) (hs7 : One s7) (hv : (F13_27 k).2 lfa lhd lre v_qlv v_qld x2 x3 x4 x5 x6 = some rr), own_WP p e below (own_Q s P rmR13.cells rmR13.slots) T (mkF m 61 #[.val (.ref o0), .val (.int x1), .val (.int x2), .val (.int x3), .val (.int x4), .val (.int x5), .val (.int x6), s7] [])) := by
  obtain ⟨hx, hZ, hby, hml, hown, hnm, hret, hlk⟩ := id C
  replace hown : s.vm.findClass "com/example/gridfare/gridfare/engine/ResidualNetwork" = some m.cls := hown
  induction k with
  | zero => refine ⟨?_, ?_⟩ <;> (intros; rename_i hv; cases hv)
  | succ k ih =>
    refine ⟨?_, ?_⟩
    · intro T locs h v_qlv v_qld X e0 N K o_o0_qfa o_qfa_qhd o_qhd_qre o_qre_qlv o_qlv_qld g_o0 E_o0 Fo0_a Fo0_c Fo0_e Fo0_10 Fo0_11 V_qfa V_qhd V_qre V_qlv V_qld x1 x2 x3 x4 s5 hs5 s6 hs6 s7 hs7 hv
      unfold F13_27 at hv
      show own_WP p e below _ T (mkF m 27 #[.val (.ref o0), .val (.int x1), .val (.int x2), .val (.int x3), .val (.int x4), s5, s6, s7] [])
      refine own_go (fun _ => XS.iload X.here hx rfl (hb hby d13_27) rfl) ?_
      show own_WP p e below _ T (mkF m 29 _ [(.int x4)])
      refine own_go (fun _ => XS.iloadN X.here hx rfl (hb hby d13_29) rfl) ?_
      show own_WP p e below _ T (mkF m 30 _ [(.int x3), (.int x4)])
      by_cases h30 : x4 < x3
      · replace hv := (if_pos h30).symm.trans hv
        refine own_go (fun _ => XS.icmpNo X.here hx rfl (hb hby d13_30) rfl (XT.ii_ge_f h30)) ?_
        show own_WP p e below _ T (mkF m 33 #[.val (.ref o0), .val (.int x1), .val (.int x2), .val (.int x3), .val (.int x4), s5, s6, s7] [])
        refine own_go (fun _ => XS.aloadN X.here hx rfl (hb hby d13_33) rfl rfl) ?_
        show own_WP p e below _ T (mkF m 34 _ [(.ref o0)])
        obtain ⟨T7, X7, e7, st7⟩ := getF X hx hZ hown (host := "") (Or.inl (hw _ (List.mem_of_getElem? (i := 51) rfl))) Via.refl e0 Fo0_10 (g := (mkF m 34 #[.val (.ref o0), .val (.int x1), .val (.int x2), .val (.int x3), .val (.int x4), s5, s6, s7] [(.ref o0)])) rfl rfl (hb hby d13_34)
        refine own_go st7 ?_
        clear st7 X e0
        show own_WP p e below _ T7 (mkF m 37 _ [(.ref qlv)])
        refine own_go (fun _ => XS.iloadN X7.here hx rfl (hb hby d13_37) rfl) ?_
        show own_WP p e below _ T7 (mkF m 38 _ [(.int x2), (.ref qlv)])
        obtain ⟨w8, hg8, hv⟩ := own_bind hv
        refine own_go (own_iaload X7 C e7 V_qlv hg8 (hb hby d13_38)) ?_
        show own_WP p e below _ T7 (mkF m 39 _ [(.int w8)])
        refine own_go (fun _ => XS.iconst X7.here hx rfl (hb hby d13_39)) ?_
        show own_WP p e below _ T7 (mkF m 40 _ [(.int (-1 : Int32)), (.int w8)])
        by_cases h40 : w8 = (-1 : Int32)
        · replace hv := (if_pos h40).symm.trans hv
          refine own_go (fun _ => XS.icmpNo X7.here hx rfl (hb hby d13_40) rfl (XT.ii_ne_f h40)) ?_
          show own_WP p e below _ T7 (mkF m 43 #[.val (.ref o0), .val (.int x1), .val (.int x2), .val (.int x3), .val (.int x4), s5, s6, s7] [])
          refine own_go (fun _ => XS.aloadN X7.here hx rfl (hb hby d13_43) rfl rfl) ?_
          show own_WP p e below _ T7 (mkF m 44 _ [(.ref o0)])
          obtain ⟨T9, X9, e9, st9⟩ := getF X7 hx hZ hown (host := "") (Or.inl (hw _ (List.mem_of_getElem? (i := 53) rfl))) Via.refl e7 Fo0_11 (g := (mkF m 44 #[.val (.ref o0), .val (.int x1), .val (.int x2), .val (.int x3), .val (.int x4), s5, s6, s7] [(.ref o0)])) rfl rfl (hb hby d13_44)
          refine own_go st9 ?_
          clear st9 X7 e7
          show own_WP p e below _ T9 (mkF m 47 _ [(.ref qld)])
          refine own_go (fun _ => XS.iload X9.here hx rfl (hb hby d13_47) rfl) ?_
          show own_WP p e below _ T9 (mkF m 49 _ [(.int x4), (.ref qld)])
          obtain ⟨w10, hg10, hv⟩ := own_bind hv
          refine own_go (own_iaload X9 C e9 V_qld hg10 (hb hby d13_49)) ?_
          show own_WP p e below _ T9 (mkF m 50 #[.val (.ref o0), .val (.int x1), .val (.int x2), .val (.int x3), .val (.int x4), s5, s6, s7] [(.int w10)])
          refine own_go (fun _ => XS.istore X9.here hx rfl (hb hby d13_50) rfl (XS.store1 (o := s5) rfl hs5 rfl)) ?_
          show own_WP p e below _ T9 (mkF m 52 #[.val (.ref o0), .val (.int x1), .val (.int x2), .val (.int x3), .val (.int x4), .val (.int w10), s6, s7] [])
          refine own_go (fun _ => XS.aloadN X9.here hx rfl (hb hby d13_52) rfl rfl) ?_
          show own_WP p e below _ T9 (mkF m 53 _ [(.ref o0)])
          obtain ⟨T11, X11, e11, st11⟩ := getF X9 hx hZ hown (host := "") (Or.inl (hw _ (List.mem_of_getElem? (i := 28) rfl))) Via.refl e9 Fo0_a (g := (mkF m 53 #[.val (.ref o0), .val (.int x1), .val (.int x2), .val (.int x3), .val (.int x4), .val (.int w10), s6, s7] [(.ref o0)])) rfl rfl (hb hby d13_53)
          refine own_go st11 ?_
          clear st11 X9 e9
          show own_WP p e below _ T11 (mkF m 56 _ [(.ref qfa)])
          refine own_go (fun _ => XS.iload X11.here hx rfl (hb hby d13_56) rfl) ?_
          show own_WP p e below _ T11 (mkF m 58 _ [(.int w10), (.ref qfa)])
          obtain ⟨w12, hg12, hv⟩ := own_bind hv
          refine own_go (own_iaload X11 C e11 V_qfa hg12 (hb hby d13_58)) ?_
          show own_WP p e below _ T11 (mkF m 59 #[.val (.ref o0), .val (.int x1), .val (.int x2), .val (.int x3), .val (.int x4), .val (.int w10), s6, s7] [(.int w12)])
          refine own_go (fun _ => XS.istore X11.here hx rfl (hb hby d13_59) rfl (XS.store1 (o := s6) rfl hs6 rfl)) ?_
          show own_WP p e below _ T11 (mkF m 61 #[.val (.ref o0), .val (.int x1), .val (.int x2), .val (.int x3), .val (.int x4), .val (.int w10), .val (.int w12), s7] [])
          exact ih.2 X11 e11 N K o_o0_qfa o_qfa_qhd o_qhd_qre o_qre_qlv o_qlv_qld g_o0 E_o0 Fo0_a Fo0_c Fo0_e Fo0_10 Fo0_11 V_qfa V_qhd V_qre V_qlv V_qld x1 x2 x3 x4 w10 w12 s7 hs7 hv
        · replace hv := (if_neg h40).symm.trans hv
          refine own_go (fun _ => XS.icmpYes X7.here hx rfl (pc0 := 40) (pc' := 144) rfl (hb hby d13_40) rfl (XT.ii_ne_t h40) (by decide) (by decide)) ?_
          exact b13_144 hw C Z0 rr hP X7 e7 N K o_o0_qfa o_qfa_qhd o_qhd_qre o_qre_qlv o_qlv_qld g_o0 E_o0 Fo0_a Fo0_c Fo0_e Fo0_10 Fo0_11 V_qfa V_qhd V_qre V_qlv V_qld x1 x2 x3 x4 s5 hs5 s6 hs6 s7 hs7 hv
      · replace hv := (if_neg h30).symm.trans hv
        refine own_go (fun _ => XS.icmpYes X.here hx rfl (pc0 := 30) (pc' := 144) rfl (hb hby d13_30) rfl (XT.ii_ge_t h30) (by decide) (by decide)) ?_
        exact b13_144 hw C Z0 rr hP X e0 N K o_o0_qfa o_qfa_qhd o_qhd_qre o_qre_qlv o_qlv_qld g_o0 E_o0 Fo0_a Fo0_c Fo0_e Fo0_10 Fo0_11 V_qfa V_qhd V_qre V_qlv V_qld x1 x2 x3 x4 s5 hs5 s6 hs6 s7 hs7 hv
    · intro T locs h v_qlv v_qld X e0 N K o_o0_qfa o_qfa_qhd o_qhd_qre o_qre_qlv o_qlv_qld g_o0 E_o0 Fo0_a Fo0_c Fo0_e Fo0_10 Fo0_11 V_qfa V_qhd V_qre V_qlv V_qld x1 x2 x3 x4 x5 x6 s7 hs7 hv
      unfold F13_27 at hv
      show own_WP p e below _ T (mkF m 61 #[.val (.ref o0), .val (.int x1), .val (.int x2), .val (.int x3), .val (.int x4), .val (.int x5), .val (.int x6), s7] [])
      refine own_go (fun _ => XS.iload X.here hx rfl (hb hby d13_61) rfl) ?_
      show own_WP p e below _ T (mkF m 63 _ [(.int x6)])
      refine own_go (fun _ => XS.aloadN X.here hx rfl (hb hby d13_63) rfl rfl) ?_
      show own_WP p e below _ T (mkF m 64 _ [(.ref o0), (.int x6)])
      obtain ⟨T15, X15, e15, st15⟩ := getF X hx hZ hown (host := "") (Or.inl (hw _ (List.mem_of_getElem? (i := 28) rfl))) Via.refl e0 Fo0_a (g := (mkF m 64 #[.val (.ref o0), .val (.int x1), .val (.int x2), .val (.int x3), .val (.int x4), .val (.int x5), .val (.int x6), s7] [(.ref o0), (.int x6)])) rfl rfl (hb hby d13_64)
      refine own_go st15 ?_
      clear st15 X e0
      show own_WP p e below _ T15 (mkF m 67 _ [(.ref qfa), (.int x6)])
      refine own_go (fun _ => XS.iload X15.here hx rfl (hb hby d13_67) rfl) ?_
      show own_WP p e below _ T15 (mkF m 69 _ [(.int x5), (.ref qfa), (.int x6)])
      refine own_go (fun _ => XS.iconst X15.here hx rfl (hb hby d13_69)) ?_
      show own_WP p e below _ T15 (mkF m 70 _ [(.int (1 : Int32)), (.int x5), (.ref qfa), (.int x6)])
      refine own_go (fun _ => XS.iadd X15.here hx rfl (hb hby d13_70) rfl) ?_
      show own_WP p e below _ T15 (mkF m 71 _ [(.int (x5 + (1 : Int32))), (.ref qfa), (.int x6)])
      obtain ⟨w16, hg16, hv⟩ := own_bind hv
      refine own_go (own_iaload X15 C e15 V_qfa hg16 (hb hby d13_71)) ?_
      show own_WP p e below _ T15 (mkF m 72 _ [(.int w16), (.int x6)])
      by_cases h72 : x6 < w16
      · replace hv := (if_pos h72).symm.trans hv
        refine own_go (fun _ => XS.icmpNo X15.here hx rfl (hb hby d13_72) rfl (XT.ii_ge_f h72)) ?_
        show own_WP p e below _ T15 (mkF m 75 #[.val (.ref o0), .val (.int x1), .val (.int x2), .val (.int x3), .val (.int x4), .val (.int x5), .val (.int x6), s7] [])
        refine own_go (fun _ => XS.aloadN X15.here hx rfl (hb hby d13_75) rfl rfl) ?_
        show own_WP p e below _ T15 (mkF m 76 _ [(.ref o0)])
        obtain ⟨T17, X17, e17, st17⟩ := getF X15 hx hZ hown (host := "") (Or.inl (hw _ (List.mem_of_getElem? (i := 32) rfl))) Via.refl e15 Fo0_c (g := (mkF m 76 #[.val (.ref o0), .val (.int x1), .val (.int x2), .val (.int x3), .val (.int x4), .val (.int x5), .val (.int x6), s7] [(.ref o0)])) rfl rfl (hb hby d13_76)
        refine own_go st17 ?_
        clear st17 X15 e15
        show own_WP p e below _ T17 (mkF m 79 _ [(.ref qhd)])
        refine own_go (fun _ => XS.iload X17.here hx rfl (hb hby d13_79) rfl) ?_
        show own_WP p e below _ T17 (mkF m 81 _ [(.int x6), (.ref qhd)])
        obtain ⟨w18, hg18, hv⟩ := own_bind hv
        refine own_go (own_iaload X17 C e17 V_qhd hg18 (hb hby d13_81)) ?_
        show own_WP p e below _ T17 (mkF m 82 #[.val (.ref o0), .val (.int x1), .val (.int x2), .val (.int x3), .val (.int x4), .val (.int x5), .val (.int x6), s7] [(.int w18)])
        refine own_go (fun _ => XS.istore X17.here hx rfl (hb hby d13_82) rfl (XS.store1 (o := s7) rfl hs7 rfl)) ?_
        show own_WP p e below _ T17 (mkF m 84 #[.val (.ref o0), .val (.int x1), .val (.int x2), .val (.int x3), .val (.int x4), .val (.int x5), .val (.int x6), .val (.int w18)] [])
        refine own_go (fun _ => XS.aloadN X17.here hx rfl (hb hby d13_84) rfl rfl) ?_
        show own_WP p e below _ T17 (mkF m 85 _ [(.ref o0)])
        obtain ⟨T19, X19, e19, st19⟩ := getF X17 hx hZ hown (host := "") (Or.inl (hw _ (List.mem_of_getElem? (i := 51) rfl))) Via.refl e17 Fo0_10 (g := (mkF m 85 #[.val (.ref o0), .val (.int x1), .val (.int x2), .val (.int x3), .val (.int x4), .val (.int x5), .val (.int x6), .val (.int w18)] [(.ref o0)])) rfl rfl (hb hby d13_85)
        refine own_go st19 ?_
        clear st19 X17 e17
        show own_WP p e below _ T19 (mkF m 88 _ [(.ref qlv)])
        refine own_go (fun _ => XS.iload X19.here hx rfl (hb hby d13_88) rfl) ?_
        show own_WP p e below _ T19 (mkF m 90 _ [(.int w18), (.ref qlv)])
        obtain ⟨w20, hg20, hv⟩ := own_bind hv
        refine own_go (own_iaload X19 C e19 V_qlv hg20 (hb hby d13_90)) ?_
        show own_WP p e below _ T19 (mkF m 91 _ [(.int w20)])
        refine own_go (fun _ => XS.iconst X19.here hx rfl (hb hby d13_91)) ?_
        show own_WP p e below _ T19 (mkF m 92 _ [(.int (-1 : Int32)), (.int w20)])
        by_cases h92 : w20 = (-1 : Int32)
        · replace hv := (if_pos h92).symm.trans hv
          refine own_go (fun _ => XS.icmpNo X19.here hx rfl (hb hby d13_92) rfl (XT.ii_ne_f h92)) ?_
          show own_WP p e below _ T19 (mkF m 95 #[.val (.ref o0), .val (.int x1), .val (.int x2), .val (.int x3), .val (.int x4), .val (.int x5), .val (.int x6), .val (.int w18)] [])
          refine own_go (fun _ => XS.aloadN X19.here hx rfl (hb hby d13_95) rfl rfl) ?_
          show own_WP p e below _ T19 (mkF m 96 _ [(.ref o0)])
          obtain ⟨T21, X21, e21, st21⟩ := getF X19 hx hZ hown (host := "") (Or.inl (hw _ (List.mem_of_getElem? (i := 36) rfl))) Via.refl e19 Fo0_e (g := (mkF m 96 #[.val (.ref o0), .val (.int x1), .val (.int x2), .val (.int x3), .val (.int x4), .val (.int x5), .val (.int x6), .val (.int w18)] [(.ref o0)])) rfl rfl (hb hby d13_96)
          refine own_go st21 ?_
          clear st21 X19 e19
          show own_WP p e below _ T21 (mkF m 99 _ [(.ref qre)])
          refine own_go (fun _ => XS.iload X21.here hx rfl (hb hby d13_99) rfl) ?_
          show own_WP p e below _ T21 (mkF m 101 _ [(.int x6), (.ref qre)])
          obtain ⟨w22, hg22, hv⟩ := own_bind hv
          refine own_go (own_iaload X21 C e21 V_qre hg22 (hb hby d13_101)) ?_
          show own_WP p e below _ T21 (mkF m 102 _ [(.int w22)])
          by_cases h102 : (0 : Int32) < w22
          · replace hv := (if_pos h102).symm.trans hv
            refine own_go (fun _ => XS.ifNo X21.here hx rfl (hb hby d13_102) rfl (XT.i0_le_f h102)) ?_
            show own_WP p e below _ T21 (mkF m 105 #[.val (.ref o0), .val (.int x1), .val (.int x2), .val (.int x3), .val (.int x4), .val (.int x5), .val (.int x6), .val (.int w18)] [])
            refine own_go (fun _ => XS.aloadN X21.here hx rfl (hb hby d13_105) rfl rfl) ?_
            show own_WP p e below _ T21 (mkF m 106 _ [(.ref o0)])
            obtain ⟨T23, X23, e23, st23⟩ := getF X21 hx hZ hown (host := "") (Or.inl (hw _ (List.mem_of_getElem? (i := 51) rfl))) Via.refl e21 Fo0_10 (g := (mkF m 106 #[.val (.ref o0), .val (.int x1), .val (.int x2), .val (.int x3), .val (.int x4), .val (.int x5), .val (.int x6), .val (.int w18)] [(.ref o0)])) rfl rfl (hb hby d13_106)
            refine own_go st23 ?_
            clear st23 X21 e21
            show own_WP p e below _ T23 (mkF m 109 _ [(.ref qlv)])
            refine own_go (fun _ => XS.iload X23.here hx rfl (hb hby d13_109) rfl) ?_
            show own_WP p e below _ T23 (mkF m 111 _ [(.int w18), (.ref qlv)])
            refine own_go (fun _ => XS.aloadN X23.here hx rfl (hb hby d13_111) rfl rfl) ?_
            show own_WP p e below _ T23 (mkF m 112 _ [(.ref o0), (.int w18), (.ref qlv)])
            obtain ⟨T24, X24, e24, st24⟩ := getF X23 hx hZ hown (host := "") (Or.inl (hw _ (List.mem_of_getElem? (i := 51) rfl))) Via.refl e23 Fo0_10 (g := (mkF m 112 #[.val (.ref o0), .val (.int x1), .val (.int x2), .val (.int x3), .val (.int x4), .val (.int x5), .val (.int x6), .val (.int w18)] [(.ref o0), (.int w18), (.ref qlv)])) rfl rfl (hb hby d13_112)
            refine own_go st24 ?_
            clear st24 X23 e23
            show own_WP p e below _ T24 (mkF m 115 _ [(.ref qlv), (.int w18), (.ref qlv)])
            refine own_go (fun _ => XS.iload X24.here hx rfl (hb hby d13_115) rfl) ?_
            show own_WP p e below _ T24 (mkF m 117 _ [(.int x5), (.ref qlv), (.int w18), (.ref qlv)])
            obtain ⟨w25, hg25, hv⟩ := own_bind hv
            refine own_go (own_iaload X24 C e24 V_qlv hg25 (hb hby d13_117)) ?_
            show own_WP p e below _ T24 (mkF m 118 _ [(.int w25), (.int w18), (.ref qlv)])
            refine own_go (fun _ => XS.iconst X24.here hx rfl (hb hby d13_118)) ?_
            show own_WP p e below _ T24 (mkF m 119 #[.val (.ref o0), .val (.int x1), .val (.int x2), .val (.int x3), .val (.int x4), .val (.int x5), .val (.int x6), .val (.int w18)] [(.int (1 : Int32)), (.int w25), (.int w18), (.ref qlv)])
            refine own_go (fun _ => XS.iadd X24.here hx rfl (hb hby d13_119) rfl) ?_
            show own_WP p e below _ T24 (mkF m 120 _ [(.int (w25 + (1 : Int32))), (.int w18), (.ref qlv)])
            obtain ⟨u26, hg26, hv⟩ := own_bind hv
            obtain ⟨T26, h26, X26, e26, W26, V'26, st26⟩ := own_iastore X24 C e24 V_qlv (j := w18) (x := (w25 + (1 : Int32))) hg26 (hb hby d13_120)
            refine own_go st26 ?_
            replace E_o0 := E_o0.wr W26
            have nq : @Ne Addr o0 qlv := own_ne (by omega)
            replace Fo0_a := Fo0_a.other W26 (Or.inl nq)
            replace Fo0_c := Fo0_c.other W26 (Or.inl nq)
            replace Fo0_e := Fo0_e.other W26 (Or.inl nq)
            replace Fo0_10 := Fo0_10.other W26 (Or.inl nq)
            replace Fo0_11 := Fo0_11.other W26 (Or.inl nq)
            clear nq
            replace V_qfa := V_qfa.other W26 (own_ne (by omega))
            replace V_qhd := V_qhd.other W26 (own_ne (by omega))
            replace V_qre := V_qre.other W26 (own_ne (by omega))
            replace V_qld := V_qld.other W26 (own_ne (by omega))
            replace V_qlv := V'26
            clear V'26
            replace K := K.wr W26 (Or.inl (List.mem_of_getElem? (i := 0) rfl))
            replace N := Fr.snoc X26 N (by omega)
            clear st26 W26 hg26 X24 e24
            show own_WP p e below _ T26 (mkF m 121 _ [])
            refine own_go (fun _ => XS.aloadN X26.here hx rfl (hb hby d13_121) rfl rfl) ?_
            show own_WP p e below _ T26 (mkF m 122 _ [(.ref o0)])
            obtain ⟨T27, X27, e27, st27⟩ := getF X26 hx hZ hown (host := "") (Or.inl (hw _ (List.mem_of_getElem? (i := 53) rfl))) Via.refl e26 Fo0_11 (g := (mkF m 122 #[.val (.ref o0), .val (.int x1), .val (.int x2), .val (.int x3), .val (.int x4), .val (.int x5), .val (.int x6), .val (.int w18)] [(.ref o0)])) rfl rfl (hb hby d13_122)
            refine own_go st27 ?_
            clear st27 X26 e26
            show own_WP p e below _ T27 (mkF m 125 _ [(.ref qld)])
            refine own_go (fun _ => XS.iloadN X27.here hx rfl (hb hby d13_125) rfl) ?_
            show own_WP p e below _ T27 (mkF m 126 _ [(.int x3), (.ref qld)])
            refine own_go (fun _ => XS.iload X27.here hx rfl (hb hby d13_126) rfl) ?_
            show own_WP p e below _ T27 (mkF m 128 _ [(.int w18), (.int x3), (.ref qld)])
            obtain ⟨u28, hg28, hv⟩ := own_bind hv
            obtain ⟨T28, h28, X28, e28, W28, V'28, st28⟩ := own_iastore X27 C e27 V_qld (j := x3) (x := w18) hg28 (hb hby d13_128)
            refine own_go st28 ?_
            replace E_o0 := E_o0.wr W28
            have nq : @Ne Addr o0 qld := own_ne (by omega)
            replace Fo0_a := Fo0_a.other W28 (Or.inl nq)
            replace Fo0_c := Fo0_c.other W28 (Or.inl nq)
            replace Fo0_e := Fo0_e.other W28 (Or.inl nq)
            replace Fo0_10 := Fo0_10.other W28 (Or.inl nq)
            replace Fo0_11 := Fo0_11.other W28 (Or.inl nq)
            clear nq
            replace V_qfa := V_qfa.other W28 (own_ne (by omega))
            replace V_qhd := V_qhd.other W28 (own_ne (by omega))
            replace V_qre := V_qre.other W28 (own_ne (by omega))
            replace V_qlv := V_qlv.other W28 (own_ne (by omega))
            replace V_qld := V'28
            clear V'28
            replace K := K.wr W28 (Or.inl (List.mem_of_getElem? (i := 1) rfl))
            replace N := Fr.snoc X28 N (by omega)
            clear st28 W28 hg28 X27 e27
            show own_WP p e below _ T28 (mkF m 129 #[.val (.ref o0), .val (.int x1), .val (.int x2), .val (.int x3), .val (.int x4), .val (.int x5), .val (.int x6), .val (.int w18)] [])
            refine own_go (fun _ => XS.iinc X28.here hx rfl (hb hby d13_129) rfl rfl) ?_
            show own_WP p e below _ T28 (mkF m 132 #[.val (.ref o0), .val (.int x1), .val (.int x2), .val (.int (x3 + (1 : Int32))), .val (.int x4), .val (.int x5), .val (.int x6), .val (.int w18)] [])
            refine own_go (fun _ => XS.iinc X28.here hx rfl (hb hby d13_132) rfl rfl) ?_
            show own_WP p e below _ T28 (mkF m 135 #[.val (.ref o0), .val (.int x1), .val (.int x2), .val (.int (x3 + (1 : Int32))), .val (.int x4), .val (.int x5), .val (.int (x6 + (1 : Int32))), .val (.int w18)] [])
            refine own_go (fun _ => XS.goto X28.here hx rfl (pc0 := 135) (pc' := 61) rfl (hb hby d13_135) (by decide) (by decide)) ?_
            exact ih.2 X28 e28 N K o_o0_qfa o_qfa_qhd o_qhd_qre o_qre_qlv o_qlv_qld g_o0 E_o0 Fo0_a Fo0_c Fo0_e Fo0_10 Fo0_11 V_qfa V_qhd V_qre V_qlv V_qld x1 x2 (x3 + (1 : Int32)) x4 x5 (x6 + (1 : Int32)) (.val (.int w18)) (One.val rfl) hv
          · replace hv := (if_neg h102).symm.trans hv
            refine own_go (fun _ => XS.ifYes X21.here hx rfl (pc0 := 102) (pc' := 132) rfl (hb hby d13_102) rfl (XT.i0_le_t h102) (by decide) (by decide)) ?_
            show own_WP p e below _ T21 (mkF m 132 #[.val (.ref o0), .val (.int x1), .val (.int x2), .val (.int x3), .val (.int x4), .val (.int x5), .val (.int x6), .val (.int w18)] [])
            refine own_go (fun _ => XS.iinc X21.here hx rfl (hb hby d13_132) rfl rfl) ?_
            show own_WP p e below _ T21 (mkF m 135 #[.val (.ref o0), .val (.int x1), .val (.int x2), .val (.int x3), .val (.int x4), .val (.int x5), .val (.int (x6 + (1 : Int32))), .val (.int w18)] [])
            refine own_go (fun _ => XS.goto X21.here hx rfl (pc0 := 135) (pc' := 61) rfl (hb hby d13_135) (by decide) (by decide)) ?_
            exact ih.2 X21 e21 N K o_o0_qfa o_qfa_qhd o_qhd_qre o_qre_qlv o_qlv_qld g_o0 E_o0 Fo0_a Fo0_c Fo0_e Fo0_10 Fo0_11 V_qfa V_qhd V_qre V_qlv V_qld x1 x2 x3 x4 x5 (x6 + (1 : Int32)) (.val (.int w18)) (One.val rfl) hv
        · replace hv := (if_neg h92).symm.trans hv
          refine own_go (fun _ => XS.icmpYes X19.here hx rfl (pc0 := 92) (pc' := 132) rfl (hb hby d13_92) rfl (XT.ii_ne_t h92) (by decide) (by decide)) ?_
          show own_WP p e below _ T19 (mkF m 132 #[.val (.ref o0), .val (.int x1), .val (.int x2), .val (.int x3), .val (.int x4), .val (.int x5), .val (.int x6), .val (.int w18)] [])
          refine own_go (fun _ => XS.iinc X19.here hx rfl (hb hby d13_132) rfl rfl) ?_
          show own_WP p e below _ T19 (mkF m 135 #[.val (.ref o0), .val (.int x1), .val (.int x2), .val (.int x3), .val (.int x4), .val (.int x5), .val (.int (x6 + (1 : Int32))), .val (.int w18)] [])
          refine own_go (fun _ => XS.goto X19.here hx rfl (pc0 := 135) (pc' := 61) rfl (hb hby d13_135) (by decide) (by decide)) ?_
          exact ih.2 X19 e19 N K o_o0_qfa o_qfa_qhd o_qhd_qre o_qre_qlv o_qlv_qld g_o0 E_o0 Fo0_a Fo0_c Fo0_e Fo0_10 Fo0_11 V_qfa V_qhd V_qre V_qlv V_qld x1 x2 x3 x4 x5 (x6 + (1 : Int32)) (.val (.int w18)) (One.val rfl) hv
      · replace hv := (if_neg h72).symm.trans hv
        refine own_go (fun _ => XS.icmpYes X15.here hx rfl (pc0 := 72) (pc' := 138) rfl (hb hby d13_72) rfl (XT.ii_ge_t h72) (by decide) (by decide)) ?_
        show own_WP p e below _ T15 (mkF m 138 #[.val (.ref o0), .val (.int x1), .val (.int x2), .val (.int x3), .val (.int x4), .val (.int x5), .val (.int x6), s7] [])
        refine own_go (fun _ => XS.iinc X15.here hx rfl (hb hby d13_138) rfl rfl) ?_
        show own_WP p e below _ T15 (mkF m 141 #[.val (.ref o0), .val (.int x1), .val (.int x2), .val (.int x3), .val (.int (x4 + (1 : Int32))), .val (.int x5), .val (.int x6), s7] [])
        refine own_go (fun _ => XS.goto X15.here hx rfl (pc0 := 141) (pc' := 27) rfl (hb hby d13_141) (by decide) (by decide)) ?_
        exact ih.1 X15 e15 N K o_o0_qfa o_qfa_qhd o_qhd_qre o_qre_qlv o_qlv_qld g_o0 E_o0 Fo0_a Fo0_c Fo0_e Fo0_10 Fo0_11 V_qfa V_qhd V_qre V_qlv V_qld x1 x2 x3 (x4 + (1 : Int32)) (.val (.int x5)) (One.val rfl) (.val (.int x6)) (One.val rfl) s7 hs7 hv
def f13_0 (lfa : List Int32) (lhd : List Int32) (lre : List Int32) (v_qlv : List Int32) (v_qld : List Int32) (x1 : Int32) (x2 : Int32) : Option (Int32 × (List Int32) × (List Int32)) := ((f9_0 v_qlv (-1 : Int32)).bind fun rr2 => ((own_set rr2 x1 (0 : Int32)).bind fun u4 => ((own_set v_qld (0 : Int32) x1).bind fun u6 => ((F13_27 30).1 lfa lhd lre u4 u6 x2 (1 : Int32) (0 : Int32)))))
set_option maxRecDepth 65536 in
set_option maxHeartbeats 40000000 in
theorem b13_0 {p : Program} {l : Launch} {e : Env} {s : State} {m : MethodId} {args : Array Value} {below : List Frame} {meth : Method} {c : Code} {Z : State} {a0 : Array Value} {h0 : Heap} {n0 : Nat} {P : Option Value → Heap → List Loc → Prop} (hw : ∀ d ∈ tables_1, d.before a0 Z = true) (C : own_Ctx p s m meth c Z (⟨"com/example/gridfare/gridfare/engine/ResidualNetwork", "levelFrom", "(II)Z"⟩ : MethodName) prog_42_method_6_code 8 (some .boolean)) (Z0 : n0 ≤ h0.size) {o0 : Nat} {qfa : Nat} {qhd : Nat} {qre : Nat} {qlv : Nat} {qld : Nat} {lfa : List Int32} {lhd : List Int32} {lre : List Int32} (rr : Int32 × (List Int32) × (List Int32)) (hP : ∀ v h L, Fr n0 L → Keep h0 h [qlv, qld] → E13 Z h0 o0 qfa qhd qre qlv qld lfa lhd lre rr v h → P v h L)
    {T : State} {locs : List Loc} {h : Heap} {v_qlv : List Int32} {v_qld : List Int32} (X : Stand p l e rmR13 s m args below meth c T locs 0 0) (e0 : T.heap = h) (N : Fr n0 locs) (K : Keep h0 h [qlv, qld]) (o_o0_qfa : o0 < qfa) (o_qfa_qhd : qfa < qhd) (o_qhd_qre : qhd < qre) (o_qre_qlv : qre < qlv) (o_qlv_qld : qlv < qld) (g_o0 : n0 ≤ o0) (E_o0 : Exa Z h o0 "com/example/gridfare/gridfare/engine/ResidualNetwork") (Fo0_a : Fld Z h o0 "com/example/gridfare/gridfare/engine/ResidualNetwork" "firstArc" "[I" (.ref qfa)) (Fo0_c : Fld Z h o0 "com/example/gridfare/gridfare/engine/ResidualNetwork" "head" "[I" (.ref qhd)) (Fo0_e : Fld Z h o0 "com/example/gridfare/gridfare/engine/ResidualNetwork" "residual" "[I" (.ref qre)) (Fo0_10 : Fld Z h o0 "com/example/gridfare/gridfare/engine/ResidualNetwork" "level" "[I" (.ref qlv)) (Fo0_11 : Fld Z h o0 "com/example/gridfare/gridfare/engine/ResidualNetwork" "levelled" "[I" (.ref qld)) (V_qfa : own_AI Z h qfa .int lfa) (V_qhd : own_AI Z h qhd .int lhd) (V_qre : own_AI Z h qre .int lre) (V_qlv : own_AI Z h qlv .int v_qlv) (V_qld : own_AI Z h qld .int v_qld) (x1 : Int32) (x2 : Int32) (hv : f13_0 lfa lhd lre v_qlv v_qld x1 x2 = some rr) :
    own_WP p e below (own_Q s P rmR13.cells rmR13.slots) T (mkF m 0 #[.val (.ref o0), .val (.int x1), .val (.int x2), .unset, .unset, .unset, .unset, .unset] []) := by
  obtain ⟨hx, hZ, hby, hml, hown, hnm, hret, hlk⟩ := id C
  replace hown : s.vm.findClass "com/example/gridfare/gridfare/engine/ResidualNetwork" = some m.cls := hown
  unfold f13_0 at hv
  show own_WP p e below _ T (mkF m 0 #[.val (.ref o0), .val (.int x1), .val (.int x2), .unset, .unset, .unset, .unset, .unset] [])
  refine own_go (fun _ => XS.aloadN X.here hx rfl (hb hby d13_0) rfl rfl) ?_
  show own_WP p e below _ T (mkF m 1 _ [(.ref o0)])
  obtain ⟨T1, X1, e1, st1⟩ := getF X hx hZ hown (host := "") (Or.inl (hw _ (List.mem_of_getElem? (i := 51) rfl))) Via.refl e0 Fo0_10 (g := (mkF m 1 #[.val (.ref o0), .val (.int x1), .val (.int x2), .unset, .unset, .unset, .unset, .unset] [(.ref o0)])) rfl rfl (hb hby d13_1)
  refine own_go st1 ?_
  clear st1 X e0
  show own_WP p e below _ T1 (mkF m 4 _ [(.ref qlv)])
  refine own_go (fun _ => XS.iconst X1.here hx rfl (hb hby d13_4)) ?_
  show own_WP p e below _ T1 (mkF m 5 #[.val (.ref o0), .val (.int x1), .val (.int x2), .unset, .unset, .unset, .unset, .unset] [(.int (-1 : Int32)), (.ref qlv)])
  obtain ⟨rr2, hf2, hv⟩ := own_bind hv
  obtain ⟨T2, v2, L2, X2, ⟨N2, K2, Q2⟩, st2⟩ := own_callS X1 C (argsL := [(.ref qlv), (.int (-1 : Int32))]) (rm9 l Z a0 hw n0 h (by have q := K.1; omega) (by omega) V_qlv (-1 : Int32) rr2 hf2) (hw _ (List.mem_of_getElem? (i := 123) rfl)) (hw _ (List.mem_of_getElem? (i := 82) rfl)) (hw _ (List.mem_of_getElem? (i := 42) rfl)) (hw _ (List.mem_of_getElem? (i := 83) rfl)) (by decide) e1 (W := 0) (pc := 5) (Ls := #[.val (.ref o0), .val (.int x1), .val (.int x2), .unset, .unset, .unset, .unset, .unset]) rfl (lenOf pd9 rfl) (rest := []) (stk := [(.int (-1 : Int32)), (.ref qlv)]) rfl (Nat.le_of_ble_eq_true rfl) (hb hby d13_5) (by decide) (by decide) (by decide) (by decide)
  replace N := Fr.app N N2
  replace E_o0 := E_o0.keep K2
  have nq : o0 ∉ ([qlv] : List Addr) := (ninS (own_ne (by omega)) nin0)
  replace Fo0_a := Fo0_a.keep K2 nq
  replace Fo0_c := Fo0_c.keep K2 nq
  replace Fo0_e := Fo0_e.keep K2 nq
  replace Fo0_10 := Fo0_10.keep K2 nq
  replace Fo0_11 := Fo0_11.keep K2 nq
  clear nq
  replace V_qfa := V_qfa.keep K2 (ninS (own_ne (by omega)) nin0)
  replace V_qhd := V_qhd.keep K2 (ninS (own_ne (by omega)) nin0)
  replace V_qre := V_qre.keep K2 (ninS (own_ne (by omega)) nin0)
  replace V_qld := V_qld.keep K2 (ninS (own_ne (by omega)) nin0)
  clear V_qlv
  obtain ⟨rfl, V_qlv⟩ := Q2
  replace K := K.trans K2 (allS (Or.inl (List.mem_of_getElem? (i := 0) rfl)) all0)
  refine own_go st2 ?_
  clear st2 N2 K2 hf2 X1 e1
  show own_WP p e below _ T2 (mkF m 8 _ [])
  refine own_go (fun _ => XS.aloadN X2.here hx rfl (hb hby d13_8) rfl rfl) ?_
  show own_WP p e below _ T2 (mkF m 9 _ [(.ref o0)])
  obtain ⟨T3, X3, e3, st3⟩ := getF X2 hx hZ hown (host := "") (Or.inl (hw _ (List.mem_of_getElem? (i := 51) rfl))) Via.refl (rfl : T2.heap = T2.heap) Fo0_10 (g := (mkF m 9 #[.val (.ref o0), .val (.int x1), .val (.int x2), .unset, .unset, .unset, .unset, .unset] [(.ref o0)])) rfl rfl (hb hby d13_9)
  refine own_go st3 ?_
  clear st3 X2
  show own_WP p e below _ T3 (mkF m 12 _ [(.ref qlv)])
  refine own_go (fun _ => XS.iloadN X3.here hx rfl (hb hby d13_12) rfl) ?_
  show own_WP p e below _ T3 (mkF m 13 _ [(.int x1), (.ref qlv)])
  refine own_go (fun _ => XS.iconst X3.here hx rfl (hb hby d13_13)) ?_
  show own_WP p e below _ T3 (mkF m 14 _ [(.int (0 : Int32)), (.int x1), (.ref qlv)])
  obtain ⟨u4, hg4, hv⟩ := own_bind hv
  obtain ⟨T4, h4, X4, e4, W4, V'4, st4⟩ := own_iastore X3 C e3 V_qlv (j := x1) (x := (0 : Int32)) hg4 (hb hby d13_14)
  refine own_go st4 ?_
  replace E_o0 := E_o0.wr W4
  have nq : @Ne Addr o0 qlv := own_ne (by omega)
  replace Fo0_a := Fo0_a.other W4 (Or.inl nq)
  replace Fo0_c := Fo0_c.other W4 (Or.inl nq)
  replace Fo0_e := Fo0_e.other W4 (Or.inl nq)
  replace Fo0_10 := Fo0_10.other W4 (Or.inl nq)
  replace Fo0_11 := Fo0_11.other W4 (Or.inl nq)
  clear nq
  replace V_qfa := V_qfa.other W4 (own_ne (by omega))
  replace V_qhd := V_qhd.other W4 (own_ne (by omega))
  replace V_qre := V_qre.other W4 (own_ne (by omega))
  replace V_qld := V_qld.other W4 (own_ne (by omega))
  replace V_qlv := V'4
  clear V'4
  replace K := K.wr W4 (Or.inl (List.mem_of_getElem? (i := 0) rfl))
  replace N := Fr.snoc X4 N (by omega)
  clear st4 W4 hg4 X3 e3
  show own_WP p e below _ T4 (mkF m 15 _ [])
  refine own_go (fun _ => XS.aloadN X4.here hx rfl (hb hby d13_15) rfl rfl) ?_
  show own_WP p e below _ T4 (mkF m 16 _ [(.ref o0)])
  obtain ⟨T5, X5, e5, st5⟩ := getF X4 hx hZ hown (host := "") (Or.inl (hw _ (List.mem_of_getElem? (i := 53) rfl))) Via.refl e4 Fo0_11 (g := (mkF m 16 #[.val (.ref o0), .val (.int x1), .val (.int x2), .unset, .unset, .unset, .unset, .unset] [(.ref o0)])) rfl rfl (hb hby d13_16)
  refine own_go st5 ?_
  clear st5 X4 e4
  show own_WP p e below _ T5 (mkF m 19 #[.val (.ref o0), .val (.int x1), .val (.int x2), .unset, .unset, .unset, .unset, .unset] [(.ref qld)])
  refine own_go (fun _ => XS.iconst X5.here hx rfl (hb hby d13_19)) ?_
  show own_WP p e below _ T5 (mkF m 20 _ [(.int (0 : Int32)), (.ref qld)])
  refine own_go (fun _ => XS.iloadN X5.here hx rfl (hb hby d13_20) rfl) ?_
  show own_WP p e below _ T5 (mkF m 21 _ [(.int x1), (.int (0 : Int32)), (.ref qld)])
  obtain ⟨u6, hg6, hv⟩ := own_bind hv
  obtain ⟨T6, h6, X6, e6, W6, V'6, st6⟩ := own_iastore X5 C e5 V_qld (j := (0 : Int32)) (x := x1) hg6 (hb hby d13_21)
  refine own_go st6 ?_
  replace E_o0 := E_o0.wr W6
  have nq : @Ne Addr o0 qld := own_ne (by omega)
  replace Fo0_a := Fo0_a.other W6 (Or.inl nq)
  replace Fo0_c := Fo0_c.other W6 (Or.inl nq)
  replace Fo0_e := Fo0_e.other W6 (Or.inl nq)
  replace Fo0_10 := Fo0_10.other W6 (Or.inl nq)
  replace Fo0_11 := Fo0_11.other W6 (Or.inl nq)
  clear nq
  replace V_qfa := V_qfa.other W6 (own_ne (by omega))
  replace V_qhd := V_qhd.other W6 (own_ne (by omega))
  replace V_qre := V_qre.other W6 (own_ne (by omega))
  replace V_qlv := V_qlv.other W6 (own_ne (by omega))
  replace V_qld := V'6
  clear V'6
  replace K := K.wr W6 (Or.inl (List.mem_of_getElem? (i := 1) rfl))
  replace N := Fr.snoc X6 N (by omega)
  clear st6 W6 hg6 X5 e5
  show own_WP p e below _ T6 (mkF m 22 _ [])
  refine own_go (fun _ => XS.iconst X6.here hx rfl (hb hby d13_22)) ?_
  show own_WP p e below _ T6 (mkF m 23 #[.val (.ref o0), .val (.int x1), .val (.int x2), .unset, .unset, .unset, .unset, .unset] [(.int (1 : Int32))])
  refine own_go (fun _ => XS.istoreN X6.here hx rfl (hb hby d13_23) rfl rfl) ?_
  show own_WP p e below _ T6 (mkF m 24 #[.val (.ref o0), .val (.int x1), .val (.int x2), .val (.int (1 : Int32)), .unset, .unset, .unset, .unset] [])
  refine own_go (fun _ => XS.iconst X6.here hx rfl (hb hby d13_24)) ?_
  show own_WP p e below _ T6 (mkF m 25 #[.val (.ref o0), .val (.int x1), .val (.int x2), .val (.int (1 : Int32)), .unset, .unset, .unset, .unset] [(.int (0 : Int32))])
  refine own_go (fun _ => XS.istore X6.here hx rfl (hb hby d13_25) rfl rfl) ?_
  show own_WP p e below _ T6 (mkF m 27 #[.val (.ref o0), .val (.int x1), .val (.int x2), .val (.int (1 : Int32)), .val (.int (0 : Int32)), .unset, .unset, .unset] [])
  exact (bG13_27 hw C Z0 rr hP 30).1 X6 e6 N K o_o0_qfa o_qfa_qhd o_qhd_qre o_qre_qlv o_qlv_qld g_o0 E_o0 Fo0_a Fo0_c Fo0_e Fo0_10 Fo0_11 V_qfa V_qhd V_qre V_qlv V_qld x1 x2 (1 : Int32) (0 : Int32) (.unset) One.u (.unset) One.u (.unset) One.u hv
theorem ef13 (m : MethodId) (o0 : Nat) (x1 : Int32) (x2 : Int32) : entryFrame m #[(.ref o0), (.int x1), (.int x2)] 8 = (mkF m 0 #[.val (.ref o0), .val (.int x1), .val (.int x2), .unset, .unset, .unset, .unset, .unset] []) := by first | (simp [entryFrame, mkF, argsToLocals, Value.category]; done) | rfl
theorem pd13 : parseMethodDescriptor "(II)Z" = some ⟨[.int, .int], some .boolean⟩ := by decide +kernel
theorem pn13 : plainFor (⟨"com/example/gridfare/gridfare/engine/ResidualNetwork", "levelFrom", "(II)Z"⟩ : MethodName) = true := plainFor_of_name (by first | (simp [plainName, overriddenIn]; done) | decide +kernel)
theorem rm13 (l : Launch) (Z : State) (a0 : Array Value) (hw : ∀ d ∈ tables_1, d.before a0 Z = true) (n0 : Nat) (h0 : Heap) (Z0 : n0 ≤ h0.size) {o0 : Nat} {qfa : Nat} {qhd : Nat} {qre : Nat} {qlv : Nat} {qld : Nat} {lfa : List Int32} {lhd : List Int32} {lre : List Int32} {v_qlv : List Int32} {v_qld : List Int32} (o_o0_qfa : o0 < qfa) (o_qfa_qhd : qfa < qhd) (o_qhd_qre : qhd < qre) (o_qre_qlv : qre < qlv) (o_qlv_qld : qlv < qld) (g_o0 : n0 ≤ o0) (E_o0 : Exa Z h0 o0 "com/example/gridfare/gridfare/engine/ResidualNetwork") (Fo0_a : Fld Z h0 o0 "com/example/gridfare/gridfare/engine/ResidualNetwork" "firstArc" "[I" (.ref qfa)) (Fo0_c : Fld Z h0 o0 "com/example/gridfare/gridfare/engine/ResidualNetwork" "head" "[I" (.ref qhd)) (Fo0_e : Fld Z h0 o0 "com/example/gridfare/gridfare/engine/ResidualNetwork" "residual" "[I" (.ref qre)) (Fo0_10 : Fld Z h0 o0 "com/example/gridfare/gridfare/engine/ResidualNetwork" "level" "[I" (.ref qlv)) (Fo0_11 : Fld Z h0 o0 "com/example/gridfare/gridfare/engine/ResidualNetwork" "levelled" "[I" (.ref qld)) (V_qfa : own_AI Z h0 qfa .int lfa) (V_qhd : own_AI Z h0 qhd .int lhd) (V_qre : own_AI Z h0 qre .int lre) (V_qlv : own_AI Z h0 qlv .int v_qlv) (V_qld : own_AI Z h0 qld .int v_qld) (x1 : Int32) (x2 : Int32)  (rr : Int32 × (List Int32) × (List Int32)) (hf : f13_0 lfa lhd lre v_qlv v_qld x1 x2 = some rr) :
    own_Met l Z (⟨"com/example/gridfare/gridfare/engine/ResidualNetwork", "levelFrom", "(II)Z"⟩ : MethodName) prog_42_method_6_code 8 (some .boolean) [] rmR13 #[(.ref o0), (.int x1), (.int x2)] h0 (fun v h L => Fr n0 L ∧ Keep h0 h [qlv, qld] ∧ E13 Z h0 o0 qfa qhd qre qlv qld lfa lhd lre rr v h) := by
  refine own_body pn13 ?_
  intro p e s m below meth c s₁ C X e0
  exact own_cast (ef13 m o0 x1 x2) (b13_0 hw C Z0 rr (fun v h L a b c => ⟨a, b, c⟩) X e0 (Fr.nil n0) (Keep.refl h0 [qlv, qld]) o_o0_qfa o_qfa_qhd o_qhd_qre o_qre_qlv o_qlv_qld g_o0 E_o0 Fo0_a Fo0_c Fo0_e Fo0_10 Fo0_11 V_qfa V_qhd V_qre V_qlv V_qld x1 x2 hf)
theorem d12_0 : decode prog_42_method_2_code 0 = .ok (.lconst 0, 1) := by decide +kernel
theorem d12_1 : decode prog_42_method_2_code 1 = .ok (.lstore 5, 2) := by decide +kernel
theorem d12_3 : decode prog_42_method_2_code 3 = .ok (.lload 5, 2) := by decide +kernel
theorem d12_5 : decode prog_42_method_2_code 5 = .ok (.lload_n 3, 1) := by decide +kernel
theorem d12_6 : decode prog_42_method_2_code 6 = .ok (.lcmp, 1) := by decide +kernel
theorem d12_7 : decode prog_42_method_2_code 7 = .ok (.ifCond .ge 30, 3) := by decide +kernel
theorem d12_10 : decode prog_42_method_2_code 10 = .ok (.aload_n 0, 1) := by decide +kernel
theorem d12_11 : decode prog_42_method_2_code 11 = .ok (.iload_n 1, 1) := by decide +kernel
theorem d12_12 : decode prog_42_method_2_code 12 = .ok (.iload_n 2, 1) := by decide +kernel
theorem d12_13 : decode prog_42_method_2_code 13 = .ok (.invokevirtual 98, 3) := by decide +kernel
theorem d12_16 : decode prog_42_method_2_code 16 = .ok (.ifCond .eq 21, 3) := by decide +kernel
theorem d12_19 : decode prog_42_method_2_code 19 = .ok (.lload 5, 2) := by decide +kernel
theorem d12_21 : decode prog_42_method_2_code 21 = .ok (.aload_n 0, 1) := by decide +kernel
theorem d12_22 : decode prog_42_method_2_code 22 = .ok (.iload_n 1, 1) := by decide +kernel
theorem d12_23 : decode prog_42_method_2_code 23 = .ok (.iload_n 2, 1) := by decide +kernel
theorem d12_24 : decode prog_42_method_2_code 24 = .ok (.lload_n 3, 1) := by decide +kernel
theorem d12_25 : decode prog_42_method_2_code 25 = .ok (.lload 5, 2) := by decide +kernel
theorem d12_27 : decode prog_42_method_2_code 27 = .ok (.lsub, 1) := by decide +kernel
theorem d12_28 : decode prog_42_method_2_code 28 = .ok (.invokevirtual 102, 3) := by decide +kernel
theorem d12_31 : decode prog_42_method_2_code 31 = .ok (.ladd, 1) := by decide +kernel
theorem d12_32 : decode prog_42_method_2_code 32 = .ok (.lstore 5, 2) := by decide +kernel
theorem d12_34 : decode prog_42_method_2_code 34 = .ok (.goto (-31), 3) := by decide +kernel
theorem d12_37 : decode prog_42_method_2_code 37 = .ok (.lload 5, 2) := by decide +kernel
theorem d12_39 : decode prog_42_method_2_code 39 = .ok (.lreturn, 1) := by decide +kernel
def rmR12 : Room := { frames := 3, cells := 0, slots := 0, locals := 60 }
def E12 (Z : State) (h0 : Heap) (o0 : Nat) (qfa : Nat) (qhd : Nat) (qtw : Nat) (qre : Nat) (qlv : Nat) (qld : Nat) (qai : Nat) (qca : Nat) (nn : Int32) (lfa : List Int32) (lhd : List Int32) (ltw : List Int32) (rr : Int64 × (List Int32) × (List Int32) × (List Int32) × (List Int32) × (List Int32)) (v : Option Value) (h : Heap) : Prop := v = some (.long (rr.1)) ∧ own_AI Z h qre .int (rr.2.1) ∧ own_AI Z h qlv .int (rr.2.2.1) ∧ own_AI Z h qld .int (rr.2.2.2.1) ∧ own_AI Z h qai .int (rr.2.2.2.2.1) ∧ own_AI Z h qca .int (rr.2.2.2.2.2)
def f12_3 : Nat → Int32 → (List Int32) → (List Int32) → (List Int32) → (List Int32) → (List Int32) → (List Int32) → (List Int32) → (List Int32) → Int32 → Int32 → Int64 → Int64 → Option (Int64 × (List Int32) × (List Int32) × (List Int32) × (List Int32) × (List Int32))
  | 0 => fun _ _ _ _ _ _ _ _ _ _ _ _ _ => none
  | k + 1 => fun nn lfa lhd ltw v_qre v_qlv v_qld v_qai v_qca x1 x2 x3 x5 => (if x5 < x3 then ((f13_0 lfa lhd v_qre v_qlv v_qld x1 x2).bind fun rr1 => (if (rr1.1) = (0 : Int32) then (some (x5, v_qre, (rr1.2.1), (rr1.2.2), v_qai, v_qca)) else ((f14_0 nn lfa lhd ltw v_qre (rr1.2.1) v_qai v_qca x1 x2 (x3 - x5)).bind fun rr2 => (f12_3 k nn lfa lhd ltw (rr2.2.1) (rr2.2.2.1) (rr1.2.2) (rr2.2.2.2.1) (rr2.2.2.2.2) x1 x2 x3 (x5 + (rr2.1)))))) else (some (x5, v_qre, v_qlv, v_qld, v_qai, v_qca)))
set_option maxRecDepth 65536 in
set_option maxHeartbeats 40000000 in
theorem b12_3 {p : Program} {l : Launch} {e : Env} {s : State} {m : MethodId} {args : Array Value} {below : List Frame} {meth : Method} {c : Code} {Z : State} {a0 : Array Value} {h0 : Heap} {n0 : Nat} {P : Option Value → Heap → List Loc → Prop} (hw : ∀ d ∈ tables_1, d.before a0 Z = true) (C : own_Ctx p s m meth c Z (⟨"com/example/gridfare/gridfare/engine/ResidualNetwork", "sendMaxFlow", "(IIJ)J"⟩ : MethodName) prog_42_method_2_code 7 (some .long)) (Z0 : n0 ≤ h0.size) {o0 : Nat} {qfa : Nat} {qhd : Nat} {qtw : Nat} {qre : Nat} {qlv : Nat} {qld : Nat} {qai : Nat} {qca : Nat} {nn : Int32} {lfa : List Int32} {lhd : List Int32} {ltw : List Int32} (rr : Int64 × (List Int32) × (List Int32) × (List Int32) × (List Int32) × (List Int32)) (hP : ∀ v h L, Fr n0 L → Keep h0 h [qre, qlv, qld, qai, qca] → E12 Z h0 o0 qfa qhd qtw qre qlv qld qai qca nn lfa lhd ltw rr v h → P v h L) (k : Nat) : ∀ {T : State} {locs : List Loc} {h : Heap} {v_qre : List Int32} {v_qlv : List Int32} {v_qld : List Int32} {v_qai : List Int32} {v_qca : List Int32} (X : Stand p l e rmR12 s m args below meth c T locs 0 0) (e0 : T.heap = h) (N : Fr n0 locs) (K : Keep h0 h [qre, qlv, qld, qai, qca]) (o_o0_qfa : o0 < qfa) (o_qfa_qhd : qfa < qhd) (o_qhd_qtw : qhd < qtw) (o_qtw_qre : qtw < qre) (o_qre_qlv : qre < qlv) (o_qlv_qld : qlv < qld) (o_qld_qai : qld < qai) (o_qai_qca : qai < qca) (g_o0 : n0 ≤ o0) (E_o0 : Exa Z h o0 "com/example/gridfare/gridfare/engine/ResidualNetwork") (Fo0_8 : Fld Z h o0 "com/example/gridfare/gridfare/engine/ResidualNetwork" "nodes" "I" (.int nn)) (Fo0_a : Fld Z h o0 "com/example/gridfare/gridfare/engine/ResidualNetwork" "firstArc" "[I" (.ref qfa)) (Fo0_c : Fld Z h o0 "com/example/gridfare/gridfare/engine/ResidualNetwork" "head" "[I" (.ref qhd)) (Fo0_d : Fld Z h o0 "com/example/gridfare/gridfare/engine/ResidualNetwork" "twin" "[I" (.ref qtw)) (Fo0_e : Fld Z h o0 "com/example/gridfare/gridfare/engine/ResidualNetwork" "residual" "[I" (.ref qre)) (Fo0_10 : Fld Z h o0 "com/example/gridfare/gridfare/engine/ResidualNetwork" "level" "[I" (.ref qlv)) (Fo0_11 : Fld Z h o0 "com/example/gridfare/gridfare/engine/ResidualNetwork" "levelled" "[I" (.ref qld)) (Fo0_12 : Fld Z h o0 "com/example/gridfare/gridfare/engine/ResidualNetwork" "arcInto" "[I" (.ref qai)) (Fo0_1b : Fld Z h o0 "com/example/gridfare/gridfare/engine/ResidualNetwork" "currentArc" "[I" (.ref qca)) (V_qfa : own_AI Z h qfa .int lfa) (V_qhd : own_AI Z h qhd .int lhd) (V_qtw : own_AI Z h qtw .int ltw) (V_qre : own_AI Z h qre .int v_qre) (V_qlv : own_AI Z h qlv .int v_qlv) (V_qld : own_AI Z h qld .int v_qld) (V_qai : own_AI Z h qai .int v_qai) (V_qca : own_AI Z h qca .int v_qca) (x1 : Int32) (x2 : Int32) (x3 : Int64) (x5 : Int64) (hv : f12_3 k nn lfa lhd ltw v_qre v_qlv v_qld v_qai v_qca x1 x2 x3 x5 = some rr),
    own_WP p e below (own_Q s P rmR12.cells rmR12.slots) T (mkF m 3 #[.val (.ref o0), .val (.int x1), .val (.int x2), .val (.long x3), .second, .val (.long x5), .second] []) := by
  obtain ⟨hx, hZ, hby, hml, hown, hnm, hret, hlk⟩ := id C
  replace hown : s.vm.findClass "com/example/gridfare/gridfare/engine/ResidualNetwork" = some m.cls := hown
  induction k with
  | zero => intros; rename_i hv; cases hv
  | succ k ih =>
    intro T locs h v_qre v_qlv v_qld v_qai v_qca X e0 N K o_o0_qfa o_qfa_qhd o_qhd_qtw o_qtw_qre o_qre_qlv o_qlv_qld o_qld_qai o_qai_qca g_o0 E_o0 Fo0_8 Fo0_a Fo0_c Fo0_d Fo0_e Fo0_10 Fo0_11 Fo0_12 Fo0_1b V_qfa V_qhd V_qtw V_qre V_qlv V_qld V_qai V_qca x1 x2 x3 x5 hv
    unfold f12_3 at hv
    show own_WP p e below _ T (mkF m 3 #[.val (.ref o0), .val (.int x1), .val (.int x2), .val (.long x3), .second, .val (.long x5), .second] [])
    refine own_go (fun _ => XS.lload X.here hx rfl (hb hby d12_3) rfl) ?_
    show own_WP p e below _ T (mkF m 5 _ [(.long x5)])
    refine own_go (fun _ => XS.lloadN X.here hx rfl (hb hby d12_5) rfl) ?_
    show own_WP p e below _ T (mkF m 6 _ [(.long x3), (.long x5)])
    refine own_go (fun _ => XT.lcmp X.here hx rfl (hb hby d12_6) rfl) ?_
    show own_WP p e below _ T (mkF m 7 _ [(.int (XT.cmpL x5 x3))])
    by_cases h7 : x5 < x3
    · replace hv := (if_pos h7).symm.trans hv
      refine own_go (fun _ => XS.ifNo X.here hx rfl (hb hby d12_7) rfl (XT.ll_ge_f h7)) ?_
      show own_WP p e below _ T (mkF m 10 #[.val (.ref o0), .val (.int x1), .val (.int x2), .val (.long x3), .second, .val (.long x5), .second] [])
      refine own_go (fun _ => XS.aloadN X.here hx rfl (hb hby d12_10) rfl rfl) ?_
      show own_WP p e below _ T (mkF m 11 _ [(.ref o0)])
      refine own_go (fun _ => XS.iloadN X.here hx rfl (hb hby d12_11) rfl) ?_
      show own_WP p e below _ T (mkF m 12 _ [(.int x1), (.ref o0)])
      refine own_go (fun _ => XS.iloadN X.here hx rfl (hb hby d12_12) rfl) ?_
      show own_WP p e below _ T (mkF m 13 #[.val (.ref o0), .val (.int x1), .val (.int x2), .val (.long x3), .second, .val (.long x5), .second] [(.int x2), (.int x1), (.ref o0)])
      obtain ⟨rr1, hf1, hv⟩ := own_bind hv
      obtain ⟨T1, v1, L1, X1, ⟨N1, K1, Q1⟩, st1⟩ := own_callR X C (a := o0) (argsL := [(.int x1), (.int x2)]) (rm13 l Z a0 hw n0 h (by have q := K.1; omega) (by omega) (by omega) (by omega) (by omega) (by omega) (by omega) E_o0 Fo0_a Fo0_c Fo0_e Fo0_10 Fo0_11 V_qfa V_qhd V_qre V_qlv V_qld x1 x2 rr1 hf1) (hw _ (List.mem_of_getElem? (i := 119) rfl)) (own_selP (y2 := (⟨"com/example/gridfare/gridfare/engine/ResidualNetwork", "sendMaxFlow", "(IIJ)J"⟩ : MethodName)) rfl (hw _ (List.mem_of_getElem? (i := 117) rfl)) (hw _ (List.mem_of_getElem? (i := 120) rfl)) (hw _ (List.mem_of_getElem? (i := 121) rfl)) (by decide)) (hw _ (List.mem_of_getElem? (i := 121) rfl)) (hw _ (List.mem_of_getElem? (i := 120) rfl)) (hw _ (List.mem_of_getElem? (i := 12) rfl)) (hw _ (List.mem_of_getElem? (i := 122) rfl)) (by decide) e0 E_o0 (W := 0) (pc := 13) (Ls := #[.val (.ref o0), .val (.int x1), .val (.int x2), .val (.long x3), .second, .val (.long x5), .second]) rfl (lenOf pd13 rfl) (rest := []) (stk := [(.int x2), (.int x1), (.ref o0)]) rfl (Nat.le_of_ble_eq_true rfl) (hb hby d12_13) (by decide) (by decide) (by decide) (by decide)
      replace N := Fr.app N N1
      replace E_o0 := E_o0.keep K1
      have nq : o0 ∉ ([qlv, qld] : List Addr) := (ninS (own_ne (by omega)) (ninS (own_ne (by omega)) nin0))
      replace Fo0_8 := Fo0_8.keep K1 nq
      replace Fo0_a := Fo0_a.keep K1 nq
      replace Fo0_c := Fo0_c.keep K1 nq
      replace Fo0_d := Fo0_d.keep K1 nq
      replace Fo0_e := Fo0_e.keep K1 nq
      replace Fo0_10 := Fo0_10.keep K1 nq
      replace Fo0_11 := Fo0_11.keep K1 nq
      replace Fo0_12 := Fo0_12.keep K1 nq
      replace Fo0_1b := Fo0_1b.keep K1 nq
      clear nq
      replace V_qfa := V_qfa.keep K1 (ninS (own_ne (by omega)) (ninS (own_ne (by omega)) nin0))
      replace V_qhd := V_qhd.keep K1 (ninS (own_ne (by omega)) (ninS (own_ne (by omega)) nin0))
      replace V_qtw := V_qtw.keep K1 (ninS (own_ne (by omega)) (ninS (own_ne (by omega)) nin0))
      replace V_qre := V_qre.keep K1 (ninS (own_ne (by omega)) (ninS (own_ne (by omega)) nin0))
      replace V_qai := V_qai.keep K1 (ninS (own_ne (by omega)) (ninS (own_ne (by omega)) nin0))
      replace V_qca := V_qca.keep K1 (ninS (own_ne (by omega)) (ninS (own_ne (by omega)) nin0))
      clear V_qlv
      clear V_qld
      obtain ⟨rfl, V_qlv, V_qld⟩ := Q1
      replace K := K.trans K1 (allS (Or.inl (List.mem_of_getElem? (i := 1) rfl)) (allS (Or.inl (List.mem_of_getElem? (i := 2) rfl)) all0))
      refine own_go st1 ?_
      clear st1 N1 K1 hf1 X e0
      show own_WP p e below _ T1 (mkF m 16 _ [(.int (rr1.1))])
      by_cases h16 : (rr1.1) = (0 : Int32)
      · replace hv := (if_pos h16).symm.trans hv
        refine own_go (fun _ => XS.ifYes X1.here hx rfl (pc0 := 16) (pc' := 37) rfl (hb hby d12_16) rfl (XT.i0_eq_t h16) (by decide) (by decide)) ?_
        show own_WP p e below _ T1 (mkF m 37 #[.val (.ref o0), .val (.int x1), .val (.int x2), .val (.long x3), .second, .val (.long x5), .second] [])
        refine own_go (fun _ => XS.lload X1.here hx rfl (hb hby d12_37) rfl) ?_
        show own_WP p e below _ T1 (mkF m 39 #[.val (.ref o0), .val (.int x1), .val (.int x2), .val (.long x3), .second, .val (.long x5), .second] [(.long x5)])
        obtain rfl := Option.some.inj hv
        exact own_retL X1 C (hb hby d12_39) (hP _ _ _ N K ⟨rfl, V_qre, V_qlv, V_qld, V_qai, V_qca⟩) (by decide) (by decide)
      · replace hv := (if_neg h16).symm.trans hv
        refine own_go (fun _ => XS.ifNo X1.here hx rfl (hb hby d12_16) rfl (XT.i0_eq_f h16)) ?_
        show own_WP p e below _ T1 (mkF m 19 #[.val (.ref o0), .val (.int x1), .val (.int x2), .val (.long x3), .second, .val (.long x5), .second] [])
        refine own_go (fun _ => XS.lload X1.here hx rfl (hb hby d12_19) rfl) ?_
        show own_WP p e below _ T1 (mkF m 21 _ [(.long x5)])
        refine own_go (fun _ => XS.aloadN X1.here hx rfl (hb hby d12_21) rfl rfl) ?_
        show own_WP p e below _ T1 (mkF m 22 _ [(.ref o0), (.long x5)])
        refine own_go (fun _ => XS.iloadN X1.here hx rfl (hb hby d12_22) rfl) ?_
        show own_WP p e below _ T1 (mkF m 23 _ [(.int x1), (.ref o0), (.long x5)])
        refine own_go (fun _ => XS.iloadN X1.here hx rfl (hb hby d12_23) rfl) ?_
        show own_WP p e below _ T1 (mkF m 24 _ [(.int x2), (.int x1), (.ref o0), (.long x5)])
        refine own_go (fun _ => XS.lloadN X1.here hx rfl (hb hby d12_24) rfl) ?_
        show own_WP p e below _ T1 (mkF m 25 _ [(.long x3), (.int x2), (.int x1), (.ref o0), (.long x5)])
        refine own_go (fun _ => XS.lload X1.here hx rfl (hb hby d12_25) rfl) ?_
        show own_WP p e below _ T1 (mkF m 27 _ [(.long x5), (.long x3), (.int x2), (.int x1), (.ref o0), (.long x5)])
        refine own_go (fun _ => XS.lsub X1.here hx rfl (hb hby d12_27) rfl) ?_
        show own_WP p e below _ T1 (mkF m 28 #[.val (.ref o0), .val (.int x1), .val (.int x2), .val (.long x3), .second, .val (.long x5), .second] [(.long (x3 - x5)), (.int x2), (.int x1), (.ref o0), (.long x5)])
        obtain ⟨rr2, hf2, hv⟩ := own_bind hv
        obtain ⟨T2, v2, L2, X2, ⟨N2, K2, Q2⟩, st2⟩ := own_callR X1 C (a := o0) (argsL := [(.int x1), (.int x2), (.long (x3 - x5))]) (rm14 l Z a0 hw n0 T1.heap (by have q := K.1; omega) (by omega) (by omega) (by omega) (by omega) (by omega) (by omega) (by omega) (by omega) E_o0 Fo0_8 Fo0_a Fo0_c Fo0_d Fo0_e Fo0_10 Fo0_12 Fo0_1b V_qfa V_qhd V_qtw V_qre V_qlv V_qai V_qca x1 x2 (x3 - x5) rr2 hf2) (hw _ (List.mem_of_getElem? (i := 124) rfl)) (own_selP (y2 := (⟨"com/example/gridfare/gridfare/engine/ResidualNetwork", "sendMaxFlow", "(IIJ)J"⟩ : MethodName)) rfl (hw _ (List.mem_of_getElem? (i := 117) rfl)) (hw _ (List.mem_of_getElem? (i := 125) rfl)) (hw _ (List.mem_of_getElem? (i := 126) rfl)) (by decide)) (hw _ (List.mem_of_getElem? (i := 126) rfl)) (hw _ (List.mem_of_getElem? (i := 125) rfl)) (hw _ (List.mem_of_getElem? (i := 12) rfl)) (hw _ (List.mem_of_getElem? (i := 127) rfl)) (by decide) (rfl : T1.heap = T1.heap) E_o0 (W := 2) (pc := 28) (Ls := #[.val (.ref o0), .val (.int x1), .val (.int x2), .val (.long x3), .second, .val (.long x5), .second]) rfl (lenOf pd14 rfl) (rest := [(.long x5)]) (stk := [(.long (x3 - x5)), (.int x2), (.int x1), (.ref o0), (.long x5)]) rfl (Nat.le_of_ble_eq_true rfl) (hb hby d12_28) (by decide) (by decide) (by decide) (by decide)
        replace N := Fr.app N N2
        replace E_o0 := E_o0.keep K2
        have nq : o0 ∉ ([qre, qlv, qai, qca] : List Addr) := (ninS (own_ne (by omega)) (ninS (own_ne (by omega)) (ninS (own_ne (by omega)) (ninS (own_ne (by omega)) nin0))))
        replace Fo0_8 := Fo0_8.keep K2 nq
        replace Fo0_a := Fo0_a.keep K2 nq
        replace Fo0_c := Fo0_c.keep K2 nq
        replace Fo0_d := Fo0_d.keep K2 nq
        replace Fo0_e := Fo0_e.keep K2 nq
        replace Fo0_10 := Fo0_10.keep K2 nq
        replace Fo0_11 := Fo0_11.keep K2 nq
        replace Fo0_12 := Fo0_12.keep K2 nq
        replace Fo0_1b := Fo0_1b.keep K2 nq
        clear nq
        replace V_qfa := V_qfa.keep K2 (ninS (own_ne (by omega)) (ninS (own_ne (by omega)) (ninS (own_ne (by omega)) (ninS (own_ne (by omega)) nin0))))
        replace V_qhd := V_qhd.keep K2 (ninS (own_ne (by omega)) (ninS (own_ne (by omega)) (ninS (own_ne (by omega)) (ninS (own_ne (by omega)) nin0))))
        replace V_qtw := V_qtw.keep K2 (ninS (own_ne (by omega)) (ninS (own_ne (by omega)) (ninS (own_ne (by omega)) (ninS (own_ne (by omega)) nin0))))
        replace V_qld := V_qld.keep K2 (ninS (own_ne (by omega)) (ninS (own_ne (by omega)) (ninS (own_ne (by omega)) (ninS (own_ne (by omega)) nin0))))
        clear V_qre
        clear V_qlv
        clear V_qai
        clear V_qca
        obtain ⟨rfl, V_qre, V_qlv, V_qai, V_qca⟩ := Q2
        replace K := K.trans K2 (allS (Or.inl (List.mem_of_getElem? (i := 0) rfl)) (allS (Or.inl (List.mem_of_getElem? (i := 1) rfl)) (allS (Or.inl (List.mem_of_getElem? (i := 3) rfl)) (allS (Or.inl (List.mem_of_getElem? (i := 4) rfl)) all0))))
        refine own_go st2 ?_
        clear st2 N2 K2 hf2 X1
        show own_WP p e below _ T2 (mkF m 31 _ [(.long (rr2.1)), (.long x5)])
        refine own_go (fun _ => XS.ladd X2.here hx rfl (hb hby d12_31) rfl) ?_
        show own_WP p e below _ T2 (mkF m 32 #[.val (.ref o0), .val (.int x1), .val (.int x2), .val (.long x3), .second, .val (.long x5), .second] [(.long (x5 + (rr2.1)))])
        refine own_go (fun _ => XS.lstore X2.here hx rfl (hb hby d12_32) rfl rfl) ?_
        show own_WP p e below _ T2 (mkF m 34 #[.val (.ref o0), .val (.int x1), .val (.int x2), .val (.long x3), .second, .val (.long (x5 + (rr2.1))), .second] [])
        refine own_go (fun _ => XS.goto X2.here hx rfl (pc0 := 34) (pc' := 3) rfl (hb hby d12_34) (by decide) (by decide)) ?_
        exact ih X2 (rfl : T2.heap = T2.heap) N K o_o0_qfa o_qfa_qhd o_qhd_qtw o_qtw_qre o_qre_qlv o_qlv_qld o_qld_qai o_qai_qca g_o0 E_o0 Fo0_8 Fo0_a Fo0_c Fo0_d Fo0_e Fo0_10 Fo0_11 Fo0_12 Fo0_1b V_qfa V_qhd V_qtw V_qre V_qlv V_qld V_qai V_qca x1 x2 x3 (x5 + (rr2.1)) hv
    · replace hv := (if_neg h7).symm.trans hv
      refine own_go (fun _ => XS.ifYes X.here hx rfl (pc0 := 7) (pc' := 37) rfl (hb hby d12_7) rfl (XT.ll_ge_t h7) (by decide) (by decide)) ?_
      show own_WP p e below _ T (mkF m 37 #[.val (.ref o0), .val (.int x1), .val (.int x2), .val (.long x3), .second, .val (.long x5), .second] [])
      refine own_go (fun _ => XS.lload X.here hx rfl (hb hby d12_37) rfl) ?_
      show own_WP p e below _ T (mkF m 39 #[.val (.ref o0), .val (.int x1), .val (.int x2), .val (.long x3), .second, .val (.long x5), .second] [(.long x5)])
      obtain rfl := Option.some.inj hv
      exact own_retL X C (hb hby d12_39) (by rw [e0]; exact hP _ _ _ N K ⟨rfl, V_qre, V_qlv, V_qld, V_qai, V_qca⟩) (by decide) (by decide)
def f12_0 (nn : Int32) (lfa : List Int32) (lhd : List Int32) (ltw : List Int32) (v_qre : List Int32) (v_qlv : List Int32) (v_qld : List Int32) (v_qai : List Int32) (v_qca : List Int32) (x1 : Int32) (x2 : Int32) (x3 : Int64) : Option (Int64 × (List Int32) × (List Int32) × (List Int32) × (List Int32) × (List Int32)) := (f12_3 5 nn lfa lhd ltw v_qre v_qlv v_qld v_qai v_qca x1 x2 x3 (0 : Int64))
set_option maxRecDepth 65536 in
set_option maxHeartbeats 40000000 in
theorem b12_0 {p : Program} {l : Launch} {e : Env} {s : State} {m : MethodId} {args : Array Value} {below : List Frame} {meth : Method} {c : Code} {Z : State} {a0 : Array Value} {h0 : Heap} {n0 : Nat} {P : Option Value → Heap → List Loc → Prop} (hw : ∀ d ∈ tables_1, d.before a0 Z = true) (C : own_Ctx p s m meth c Z (⟨"com/example/gridfare/gridfare/engine/ResidualNetwork", "sendMaxFlow", "(IIJ)J"⟩ : MethodName) prog_42_method_2_code 7 (some .long)) (Z0 : n0 ≤ h0.size) {o0 : Nat} {qfa : Nat} {qhd : Nat} {qtw : Nat} {qre : Nat} {qlv : Nat} {qld : Nat} {qai : Nat} {qca : Nat} {nn : Int32} {lfa : List Int32} {lhd : List Int32} {ltw : List Int32} (rr : Int64 × (List Int32) × (List Int32) × (List Int32) × (List Int32) × (List Int32)) (hP : ∀ v h L, Fr n0 L → Keep h0 h [qre, qlv, qld, qai, qca] → E12 Z h0 o0 qfa qhd qtw qre qlv qld qai qca nn lfa lhd ltw rr v h → P v h L)
    {T : State} {locs : List Loc} {h : Heap} {v_qre : List Int32} {v_qlv : List Int32} {v_qld : List Int32} {v_qai : List Int32} {v_qca : List Int32} (X : Stand p l e rmR12 s m args below meth c T locs 0 0) (e0 : T.heap = h) (N : Fr n0 locs) (K : Keep h0 h [qre, qlv, qld, qai, qca]) (o_o0_qfa : o0 < qfa) (o_qfa_qhd : qfa < qhd) (o_qhd_qtw : qhd < qtw) (o_qtw_qre : qtw < qre) (o_qre_qlv : qre < qlv) (o_qlv_qld : qlv < qld) (o_qld_qai : qld < qai) (o_qai_qca : qai < qca) (g_o0 : n0 ≤ o0) (E_o0 : Exa Z h o0 "com/example/gridfare/gridfare/engine/ResidualNetwork") (Fo0_8 : Fld Z h o0 "com/example/gridfare/gridfare/engine/ResidualNetwork" "nodes" "I" (.int nn)) (Fo0_a : Fld Z h o0 "com/example/gridfare/gridfare/engine/ResidualNetwork" "firstArc" "[I" (.ref qfa)) (Fo0_c : Fld Z h o0 "com/example/gridfare/gridfare/engine/ResidualNetwork" "head" "[I" (.ref qhd)) (Fo0_d : Fld Z h o0 "com/example/gridfare/gridfare/engine/ResidualNetwork" "twin" "[I" (.ref qtw)) (Fo0_e : Fld Z h o0 "com/example/gridfare/gridfare/engine/ResidualNetwork" "residual" "[I" (.ref qre)) (Fo0_10 : Fld Z h o0 "com/example/gridfare/gridfare/engine/ResidualNetwork" "level" "[I" (.ref qlv)) (Fo0_11 : Fld Z h o0 "com/example/gridfare/gridfare/engine/ResidualNetwork" "levelled" "[I" (.ref qld)) (Fo0_12 : Fld Z h o0 "com/example/gridfare/gridfare/engine/ResidualNetwork" "arcInto" "[I" (.ref qai)) (Fo0_1b : Fld Z h o0 "com/example/gridfare/gridfare/engine/ResidualNetwork" "currentArc" "[I" (.ref qca)) (V_qfa : own_AI Z h qfa .int lfa) (V_qhd : own_AI Z h qhd .int lhd) (V_qtw : own_AI Z h qtw .int ltw) (V_qre : own_AI Z h qre .int v_qre) (V_qlv : own_AI Z h qlv .int v_qlv) (V_qld : own_AI Z h qld .int v_qld) (V_qai : own_AI Z h qai .int v_qai) (V_qca : own_AI Z h qca .int v_qca) (x1 : Int32) (x2 : Int32) (x3 : Int64) (hv : f12_0 nn lfa lhd ltw v_qre v_qlv v_qld v_qai v_qca x1 x2 x3 = some rr) :
    own_WP p e below (own_Q s P rmR12.cells rmR12.slots) T (mkF m 0 #[.val (.ref o0), .val (.int x1), .val (.int x2), .val (.long x3), .second, .unset, .unset] []) := by
  obtain ⟨hx, hZ, hby, hml, hown, hnm, hret, hlk⟩ := id C
  replace hown : s.vm.findClass "com/example/gridfare/gridfare/engine/ResidualNetwork" = some m.cls := hown
  unfold f12_0 at hv
  show own_WP p e below _ T (mkF m 0 #[.val (.ref o0), .val (.int x1), .val (.int x2), .val (.long x3), .second, .unset, .unset] [])
  refine own_go (fun _ => XS.lconst X.here hx rfl (hb hby d12_0)) ?_
  show own_WP p e below _ T (mkF m 1 #[.val (.ref o0), .val (.int x1), .val (.int x2), .val (.long x3), .second, .unset, .unset] [(.long (0 : Int64))])
  refine own_go (fun _ => XS.lstore X.here hx rfl (hb hby d12_1) rfl rfl) ?_
  show own_WP p e below _ T (mkF m 3 #[.val (.ref o0), .val (.int x1), .val (.int x2), .val (.long x3), .second, .val (.long (0 : Int64)), .second] [])
  exact b12_3 hw C Z0 rr hP 5 X e0 N K o_o0_qfa o_qfa_qhd o_qhd_qtw o_qtw_qre o_qre_qlv o_qlv_qld o_qld_qai o_qai_qca g_o0 E_o0 Fo0_8 Fo0_a Fo0_c Fo0_d Fo0_e Fo0_10 Fo0_11 Fo0_12 Fo0_1b V_qfa V_qhd V_qtw V_qre V_qlv V_qld V_qai V_qca x1 x2 x3 (0 : Int64) hv
theorem ef12 (m : MethodId) (o0 : Nat) (x1 : Int32) (x2 : Int32) (x3 : Int64) : entryFrame m #[(.ref o0), (.int x1), (.int x2), (.long x3)] 7 = (mkF m 0 #[.val (.ref o0), .val (.int x1), .val (.int x2), .val (.long x3), .second, .unset, .unset] []) := by first | (simp [entryFrame, mkF, argsToLocals, Value.category]; done) | rfl
theorem pd12 : parseMethodDescriptor "(IIJ)J" = some ⟨[.int, .int, .long], some .long⟩ := by decide +kernel
theorem pn12 : plainFor (⟨"com/example/gridfare/gridfare/engine/ResidualNetwork", "sendMaxFlow", "(IIJ)J"⟩ : MethodName) = true := plainFor_of_name (by first | (simp [plainName, overriddenIn]; done) | decide +kernel)
theorem rm12 (l : Launch) (Z : State) (a0 : Array Value) (hw : ∀ d ∈ tables_1, d.before a0 Z = true) (n0 : Nat) (h0 : Heap) (Z0 : n0 ≤ h0.size) {o0 : Nat} {qfa : Nat} {qhd : Nat} {qtw : Nat} {qre : Nat} {qlv : Nat} {qld : Nat} {qai : Nat} {qca : Nat} {nn : Int32} {lfa : List Int32} {lhd : List Int32} {ltw : List Int32} {v_qre : List Int32} {v_qlv : List Int32} {v_qld : List Int32} {v_qai : List Int32} {v_qca : List Int32} (o_o0_qfa : o0 < qfa) (o_qfa_qhd : qfa < qhd) (o_qhd_qtw : qhd < qtw) (o_qtw_qre : qtw < qre) (o_qre_qlv : qre < qlv) (o_qlv_qld : qlv < qld) (o_qld_qai : qld < qai) (o_qai_qca : qai < qca) (g_o0 : n0 ≤ o0) (E_o0 : Exa Z h0 o0 "com/example/gridfare/gridfare/engine/ResidualNetwork") (Fo0_8 : Fld Z h0 o0 "com/example/gridfare/gridfare/engine/ResidualNetwork" "nodes" "I" (.int nn)) (Fo0_a : Fld Z h0 o0 "com/example/gridfare/gridfare/engine/ResidualNetwork" "firstArc" "[I" (.ref qfa)) (Fo0_c : Fld Z h0 o0 "com/example/gridfare/gridfare/engine/ResidualNetwork" "head" "[I" (.ref qhd)) (Fo0_d : Fld Z h0 o0 "com/example/gridfare/gridfare/engine/ResidualNetwork" "twin" "[I" (.ref qtw)) (Fo0_e : Fld Z h0 o0 "com/example/gridfare/gridfare/engine/ResidualNetwork" "residual" "[I" (.ref qre)) (Fo0_10 : Fld Z h0 o0 "com/example/gridfare/gridfare/engine/ResidualNetwork" "level" "[I" (.ref qlv)) (Fo0_11 : Fld Z h0 o0 "com/example/gridfare/gridfare/engine/ResidualNetwork" "levelled" "[I" (.ref qld)) (Fo0_12 : Fld Z h0 o0 "com/example/gridfare/gridfare/engine/ResidualNetwork" "arcInto" "[I" (.ref qai)) (Fo0_1b : Fld Z h0 o0 "com/example/gridfare/gridfare/engine/ResidualNetwork" "currentArc" "[I" (.ref qca)) (V_qfa : own_AI Z h0 qfa .int lfa) (V_qhd : own_AI Z h0 qhd .int lhd) (V_qtw : own_AI Z h0 qtw .int ltw) (V_qre : own_AI Z h0 qre .int v_qre) (V_qlv : own_AI Z h0 qlv .int v_qlv) (V_qld : own_AI Z h0 qld .int v_qld) (V_qai : own_AI Z h0 qai .int v_qai) (V_qca : own_AI Z h0 qca .int v_qca) (x1 : Int32) (x2 : Int32) (x3 : Int64)  (rr : Int64 × (List Int32) × (List Int32) × (List Int32) × (List Int32) × (List Int32)) (hf : f12_0 nn lfa lhd ltw v_qre v_qlv v_qld v_qai v_qca x1 x2 x3 = some rr) :
    own_Met l Z (⟨"com/example/gridfare/gridfare/engine/ResidualNetwork", "sendMaxFlow", "(IIJ)J"⟩ : MethodName) prog_42_method_2_code 7 (some .long) [] rmR12 #[(.ref o0), (.int x1), (.int x2), (.long x3)] h0 (fun v h L => Fr n0 L ∧ Keep h0 h [qre, qlv, qld, qai, qca] ∧ E12 Z h0 o0 qfa qhd qtw qre qlv qld qai qca nn lfa lhd ltw rr v h) := by
  refine own_body pn12 ?_
  intro p e s m below meth c s₁ C X e0
  exact own_cast (ef12 m o0 x1 x2 x3) (b12_0 hw C Z0 rr (fun v h L a b c => ⟨a, b, c⟩) X e0 (Fr.nil n0) (Keep.refl h0 [qre, qlv, qld, qai, qca]) o_o0_qfa o_qfa_qhd o_qhd_qtw o_qtw_qre o_qre_qlv o_qlv_qld o_qld_qai o_qai_qca g_o0 E_o0 Fo0_8 Fo0_a Fo0_c Fo0_d Fo0_e Fo0_10 Fo0_11 Fo0_12 Fo0_1b V_qfa V_qhd V_qtw V_qre V_qlv V_qld V_qai V_qca x1 x2 x3 hf)
theorem d18_0 : decode prog_42_method_5_code 0 = .ok (.aload_n 0, 1) := by decide +kernel
theorem d18_1 : decode prog_42_method_5_code 1 = .ok (.getfield 27, 3) := by decide +kernel
theorem d18_4 : decode prog_42_method_5_code 4 = .ok (.arraylength, 1) := by decide +kernel
theorem d18_5 : decode prog_42_method_5_code 5 = .ok (.newarray .int, 2) := by decide +kernel
theorem d18_7 : decode prog_42_method_5_code 7 = .ok (.astore_n 1, 1) := by decide +kernel
theorem d18_8 : decode prog_42_method_5_code 8 = .ok (.iconst 0, 1) := by decide +kernel
theorem d18_9 : decode prog_42_method_5_code 9 = .ok (.istore_n 2, 1) := by decide +kernel
theorem d18_10 : decode prog_42_method_5_code 10 = .ok (.iload_n 2, 1) := by decide +kernel
theorem d18_11 : decode prog_42_method_5_code 11 = .ok (.aload_n 0, 1) := by decide +kernel
theorem d18_12 : decode prog_42_method_5_code 12 = .ok (.getfield 27, 3) := by decide +kernel
theorem d18_15 : decode prog_42_method_5_code 15 = .ok (.arraylength, 1) := by decide +kernel
theorem d18_16 : decode prog_42_method_5_code 16 = .ok (.if_icmp .ge 28, 3) := by decide +kernel
theorem d18_19 : decode prog_42_method_5_code 19 = .ok (.aload_n 1, 1) := by decide +kernel
theorem d18_20 : decode prog_42_method_5_code 20 = .ok (.iload_n 2, 1) := by decide +kernel
theorem d18_21 : decode prog_42_method_5_code 21 = .ok (.aload_n 0, 1) := by decide +kernel
theorem d18_22 : decode prog_42_method_5_code 22 = .ok (.getfield 36, 3) := by decide +kernel
theorem d18_25 : decode prog_42_method_5_code 25 = .ok (.aload_n 0, 1) := by decide +kernel
theorem d18_26 : decode prog_42_method_5_code 26 = .ok (.getfield 33, 3) := by decide +kernel
theorem d18_29 : decode prog_42_method_5_code 29 = .ok (.aload_n 0, 1) := by decide +kernel
theorem d18_30 : decode prog_42_method_5_code 30 = .ok (.getfield 27, 3) := by decide +kernel
theorem d18_33 : decode prog_42_method_5_code 33 = .ok (.iload_n 2, 1) := by decide +kernel
theorem d18_34 : decode prog_42_method_5_code 34 = .ok (.iaload, 1) := by decide +kernel
theorem d18_35 : decode prog_42_method_5_code 35 = .ok (.iaload, 1) := by decide +kernel
theorem d18_36 : decode prog_42_method_5_code 36 = .ok (.iaload, 1) := by decide +kernel
theorem d18_37 : decode prog_42_method_5_code 37 = .ok (.iastore, 1) := by decide +kernel
theorem d18_38 : decode prog_42_method_5_code 38 = .ok (.iinc 2 1, 3) := by decide +kernel
theorem d18_41 : decode prog_42_method_5_code 41 = .ok (.goto (-31), 3) := by decide +kernel
theorem d18_44 : decode prog_42_method_5_code 44 = .ok (.aload_n 1, 1) := by decide +kernel
theorem d18_45 : decode prog_42_method_5_code 45 = .ok (.areturn, 1) := by decide +kernel
def rmR18 : Room := { frames := 0, cells := 1, slots := 4, locals := 0 }
def E18 (Z : State) (h0 : Heap) (o0 : Nat) (qad : Nat) (qtw : Nat) (qre : Nat) (lad : List Int32) (ltw : List Int32) (lre : List Int32) (rr : (List Int32)) (v : Option Value) (h : Heap) : Prop := ∃ b5, h0.size ≤ b5 ∧ v = some (.ref b5) ∧ own_AI Z h b5 .int rr
def f18_10 : Nat → (List Int32) → (List Int32) → (List Int32) → (List Int32) → Int32 → Option ((List Int32))
  | 0 => fun _ _ _ _ _ => none
  | k + 1 => fun lad ltw lre v_b5 x2 => (if x2 < (Int32.ofNat lad.length) then ((own_get lad x2).bind fun w7 => ((own_get ltw w7).bind fun w8 => ((own_get lre w8).bind fun w9 => ((own_set v_b5 x2 w9).bind fun u10 => (f18_10 k lad ltw lre u10 (x2 + (1 : Int32))))))) else (some v_b5))
set_option maxRecDepth 65536 in
set_option maxHeartbeats 40000000 in
theorem b18_10 {p : Program} {l : Launch} {e : Env} {s : State} {m : MethodId} {args : Array Value} {below : List Frame} {meth : Method} {c : Code} {Z : State} {a0 : Array Value} {h0 : Heap} {n0 : Nat} {P : Option Value → Heap → List Loc → Prop} (hw : ∀ d ∈ tables_1, d.before a0 Z = true) (C : own_Ctx p s m meth c Z (⟨"com/example/gridfare/gridfare/engine/ResidualNetwork", "flows", "()[I"⟩ : MethodName) prog_42_method_5_code 3 (some (.array .int))) (Z0 : n0 ≤ h0.size) {o0 : Nat} {qad : Nat} {qtw : Nat} {qre : Nat} {lad : List Int32} {ltw : List Int32} {lre : List Int32} (rr : (List Int32)) (hP : ∀ v h L, Fr n0 L → Keep h0 h [] → E18 Z h0 o0 qad qtw qre lad ltw lre rr v h → P v h L) (k : Nat) : ∀ {T : State} {locs : List Loc} {h : Heap} {b5 : Nat} {v_b5 : List Int32} (X : Stand p l e rmR18 s m args below meth c T locs 1 4) (e0 : T.heap = h) (N : Fr n0 locs) (K : Keep h0 h []) (o_o0_qad : o0 < qad) (o_qad_qtw : qad < qtw) (o_qtw_qre : qtw < qre) (o_qre_b5 : qre < b5) (g_o0 : n0 ≤ o0) (z_b5 : h0.size ≤ b5) (E_o0 : Exa Z h o0 "com/example/gridfare/gridfare/engine/ResidualNetwork") (Fo0_b : Fld Z h o0 "com/example/gridfare/gridfare/engine/ResidualNetwork" "added" "[I" (.ref qad)) (Fo0_d : Fld Z h o0 "com/example/gridfare/gridfare/engine/ResidualNetwork" "twin" "[I" (.ref qtw)) (Fo0_e : Fld Z h o0 "com/example/gridfare/gridfare/engine/ResidualNetwork" "residual" "[I" (.ref qre)) (V_qad : own_AI Z h qad .int lad) (V_qtw : own_AI Z h qtw .int ltw) (V_qre : own_AI Z h qre .int lre) (V_b5 : own_AI Z h b5 .int v_b5) (x2 : Int32) (hv : f18_10 k lad ltw lre v_b5 x2 = some rr),
    own_WP p e below (own_Q s P rmR18.cells rmR18.slots) T (mkF m 10 #[.val (.ref o0), .val (.ref b5), .val (.int x2)] []) := by
  obtain ⟨hx, hZ, hby, hml, hown, hnm, hret, hlk⟩ := id C
  replace hown : s.vm.findClass "com/example/gridfare/gridfare/engine/ResidualNetwork" = some m.cls := hown
  induction k with
  | zero => intros; rename_i hv; cases hv
  | succ k ih =>
    intro T locs h b5 v_b5 X e0 N K o_o0_qad o_qad_qtw o_qtw_qre o_qre_b5 g_o0 z_b5 E_o0 Fo0_b Fo0_d Fo0_e V_qad V_qtw V_qre V_b5 x2 hv
    unfold f18_10 at hv
    show own_WP p e below _ T (mkF m 10 #[.val (.ref o0), .val (.ref b5), .val (.int x2)] [])
    refine own_go (fun _ => XS.iloadN X.here hx rfl (hb hby d18_10) rfl) ?_
    show own_WP p e below _ T (mkF m 11 _ [(.int x2)])
    refine own_go (fun _ => XS.aloadN X.here hx rfl (hb hby d18_11) rfl rfl) ?_
    show own_WP p e below _ T (mkF m 12 _ [(.ref o0), (.int x2)])
    obtain ⟨T3, X3, e3, st3⟩ := getF X hx hZ hown (host := "") (Or.inl (hw _ (List.mem_of_getElem? (i := 30) rfl))) Via.refl e0 Fo0_b (g := (mkF m 12 #[.val (.ref o0), .val (.ref b5), .val (.int x2)] [(.ref o0), (.int x2)])) rfl rfl (hb hby d18_12)
    refine own_go st3 ?_
    clear st3 X e0
    show own_WP p e below _ T3 (mkF m 15 _ [(.ref qad), (.int x2)])
    refine own_go (own_lenI X3 C e3 V_qad (hb hby d18_15)) ?_
    show own_WP p e below _ T3 (mkF m 16 _ [(.int (Int32.ofNat lad.length)), (.int x2)])
    by_cases h16 : x2 < (Int32.ofNat lad.length)
    · replace hv := (if_pos h16).symm.trans hv
      refine own_go (fun _ => XS.icmpNo X3.here hx rfl (hb hby d18_16) rfl (XT.ii_ge_f h16)) ?_
      show own_WP p e below _ T3 (mkF m 19 #[.val (.ref o0), .val (.ref b5), .val (.int x2)] [])
      refine own_go (fun _ => XS.aloadN X3.here hx rfl (hb hby d18_19) rfl rfl) ?_
      show own_WP p e below _ T3 (mkF m 20 _ [(.ref b5)])
      refine own_go (fun _ => XS.iloadN X3.here hx rfl (hb hby d18_20) rfl) ?_
      show own_WP p e below _ T3 (mkF m 21 _ [(.int x2), (.ref b5)])
      refine own_go (fun _ => XS.aloadN X3.here hx rfl (hb hby d18_21) rfl rfl) ?_
      show own_WP p e below _ T3 (mkF m 22 _ [(.ref o0), (.int x2), (.ref b5)])
      obtain ⟨T4, X4, e4, st4⟩ := getF X3 hx hZ hown (host := "") (Or.inl (hw _ (List.mem_of_getElem? (i := 36) rfl))) Via.refl e3 Fo0_e (g := (mkF m 22 #[.val (.ref o0), .val (.ref b5), .val (.int x2)] [(.ref o0), (.int x2), (.ref b5)])) rfl rfl (hb hby d18_22)
      refine own_go st4 ?_
      clear st4 X3 e3
      show own_WP p e below _ T4 (mkF m 25 _ [(.ref qre), (.int x2), (.ref b5)])
      refine own_go (fun _ => XS.aloadN X4.here hx rfl (hb hby d18_25) rfl rfl) ?_
      show own_WP p e below _ T4 (mkF m 26 _ [(.ref o0), (.ref qre), (.int x2), (.ref b5)])
      obtain ⟨T5, X5, e5, st5⟩ := getF X4 hx hZ hown (host := "") (Or.inl (hw _ (List.mem_of_getElem? (i := 34) rfl))) Via.refl e4 Fo0_d (g := (mkF m 26 #[.val (.ref o0), .val (.ref b5), .val (.int x2)] [(.ref o0), (.ref qre), (.int x2), (.ref b5)])) rfl rfl (hb hby d18_26)
      refine own_go st5 ?_
      clear st5 X4 e4
      show own_WP p e below _ T5 (mkF m 29 _ [(.ref qtw), (.ref qre), (.int x2), (.ref b5)])
      refine own_go (fun _ => XS.aloadN X5.here hx rfl (hb hby d18_29) rfl rfl) ?_
      show own_WP p e below _ T5 (mkF m 30 _ [(.ref o0), (.ref qtw), (.ref qre), (.int x2), (.ref b5)])
      obtain ⟨T6, X6, e6, st6⟩ := getF X5 hx hZ hown (host := "") (Or.inl (hw _ (List.mem_of_getElem? (i := 30) rfl))) Via.refl e5 Fo0_b (g := (mkF m 30 #[.val (.ref o0), .val (.ref b5), .val (.int x2)] [(.ref o0), (.ref qtw), (.ref qre), (.int x2), (.ref b5)])) rfl rfl (hb hby d18_30)
      refine own_go st6 ?_
      clear st6 X5 e5
      show own_WP p e below _ T6 (mkF m 33 #[.val (.ref o0), .val (.ref b5), .val (.int x2)] [(.ref qad), (.ref qtw), (.ref qre), (.int x2), (.ref b5)])
      refine own_go (fun _ => XS.iloadN X6.here hx rfl (hb hby d18_33) rfl) ?_
      show own_WP p e below _ T6 (mkF m 34 _ [(.int x2), (.ref qad), (.ref qtw), (.ref qre), (.int x2), (.ref b5)])
      obtain ⟨w7, hg7, hv⟩ := own_bind hv
      refine own_go (own_iaload X6 C e6 V_qad hg7 (hb hby d18_34)) ?_
      show own_WP p e below _ T6 (mkF m 35 _ [(.int w7), (.ref qtw), (.ref qre), (.int x2), (.ref b5)])
      obtain ⟨w8, hg8, hv⟩ := own_bind hv
      refine own_go (own_iaload X6 C e6 V_qtw hg8 (hb hby d18_35)) ?_
      show own_WP p e below _ T6 (mkF m 36 _ [(.int w8), (.ref qre), (.int x2), (.ref b5)])
      obtain ⟨w9, hg9, hv⟩ := own_bind hv
      refine own_go (own_iaload X6 C e6 V_qre hg9 (hb hby d18_36)) ?_
      show own_WP p e below _ T6 (mkF m 37 _ [(.int w9), (.int x2), (.ref b5)])
      obtain ⟨u10, hg10, hv⟩ := own_bind hv
      obtain ⟨T10, h10, X10, e10, W10, V'10, st10⟩ := own_iastore X6 C e6 V_b5 (j := x2) (x := w9) hg10 (hb hby d18_37)
      refine own_go st10 ?_
      replace E_o0 := E_o0.wr W10
      have nq : @Ne Addr o0 b5 := own_ne (by omega)
      replace Fo0_b := Fo0_b.other W10 (Or.inl nq)
      replace Fo0_d := Fo0_d.other W10 (Or.inl nq)
      replace Fo0_e := Fo0_e.other W10 (Or.inl nq)
      clear nq
      replace V_qad := V_qad.other W10 (own_ne (by omega))
      replace V_qtw := V_qtw.other W10 (own_ne (by omega))
      replace V_qre := V_qre.other W10 (own_ne (by omega))
      replace V_b5 := V'10
      clear V'10
      replace K := K.wr W10 (Or.inr (by omega))
      replace N := Fr.snoc X10 N (by omega)
      clear st10 W10 hg10 X6 e6
      show own_WP p e below _ T10 (mkF m 38 #[.val (.ref o0), .val (.ref b5), .val (.int x2)] [])
      refine own_go (fun _ => XS.iinc X10.here hx rfl (hb hby d18_38) rfl rfl) ?_
      show own_WP p e below _ T10 (mkF m 41 #[.val (.ref o0), .val (.ref b5), .val (.int (x2 + (1 : Int32)))] [])
      refine own_go (fun _ => XS.goto X10.here hx rfl (pc0 := 41) (pc' := 10) rfl (hb hby d18_41) (by decide) (by decide)) ?_
      exact ih X10 e10 N K o_o0_qad o_qad_qtw o_qtw_qre o_qre_b5 g_o0 z_b5 E_o0 Fo0_b Fo0_d Fo0_e V_qad V_qtw V_qre V_b5 (x2 + (1 : Int32)) hv
    · replace hv := (if_neg h16).symm.trans hv
      refine own_go (fun _ => XS.icmpYes X3.here hx rfl (pc0 := 16) (pc' := 44) rfl (hb hby d18_16) rfl (XT.ii_ge_t h16) (by decide) (by decide)) ?_
      show own_WP p e below _ T3 (mkF m 44 #[.val (.ref o0), .val (.ref b5), .val (.int x2)] [])
      refine own_go (fun _ => XS.aloadN X3.here hx rfl (hb hby d18_44) rfl rfl) ?_
      show own_WP p e below _ T3 (mkF m 45 #[.val (.ref o0), .val (.ref b5), .val (.int x2)] [(.ref b5)])
      obtain rfl := Option.some.inj hv
      exact own_retA X3 C rfl (hb hby d18_45) (by rw [e3]; exact hP _ _ _ N K ⟨b5, (by omega), rfl, V_b5⟩) (by decide) (by decide)
def f18_0 (lad : List Int32) (ltw : List Int32) (lre : List Int32) : Option ((List Int32)) := (if (Int32.ofNat lad.length) < 0 ∨ 4 < (Int32.ofNat lad.length).toInt then none else (f18_10 6 lad ltw lre (List.replicate ((Int32.ofNat lad.length)).toNatClampNeg 0) (0 : Int32)))
set_option maxRecDepth 65536 in
set_option maxHeartbeats 40000000 in
theorem b18_0 {p : Program} {l : Launch} {e : Env} {s : State} {m : MethodId} {args : Array Value} {below : List Frame} {meth : Method} {c : Code} {Z : State} {a0 : Array Value} {h0 : Heap} {n0 : Nat} {P : Option Value → Heap → List Loc → Prop} (hw : ∀ d ∈ tables_1, d.before a0 Z = true) (C : own_Ctx p s m meth c Z (⟨"com/example/gridfare/gridfare/engine/ResidualNetwork", "flows", "()[I"⟩ : MethodName) prog_42_method_5_code 3 (some (.array .int))) (Z0 : n0 ≤ h0.size) {o0 : Nat} {qad : Nat} {qtw : Nat} {qre : Nat} {lad : List Int32} {ltw : List Int32} {lre : List Int32} (rr : (List Int32)) (hP : ∀ v h L, Fr n0 L → Keep h0 h [] → E18 Z h0 o0 qad qtw qre lad ltw lre rr v h → P v h L)
    {T : State} {locs : List Loc} {h : Heap} (X : Stand p l e rmR18 s m args below meth c T locs 0 0) (e0 : T.heap = h) (N : Fr n0 locs) (K : Keep h0 h []) (o_o0_qad : o0 < qad) (o_qad_qtw : qad < qtw) (o_qtw_qre : qtw < qre) (g_o0 : n0 ≤ o0) (E_o0 : Exa Z h o0 "com/example/gridfare/gridfare/engine/ResidualNetwork") (Fo0_b : Fld Z h o0 "com/example/gridfare/gridfare/engine/ResidualNetwork" "added" "[I" (.ref qad)) (Fo0_d : Fld Z h o0 "com/example/gridfare/gridfare/engine/ResidualNetwork" "twin" "[I" (.ref qtw)) (Fo0_e : Fld Z h o0 "com/example/gridfare/gridfare/engine/ResidualNetwork" "residual" "[I" (.ref qre)) (V_qad : own_AI Z h qad .int lad) (V_qtw : own_AI Z h qtw .int ltw) (V_qre : own_AI Z h qre .int lre) (hv : f18_0 lad ltw lre = some rr) :
    own_WP p e below (own_Q s P rmR18.cells rmR18.slots) T (mkF m 0 #[.val (.ref o0), .unset, .unset] []) := by
  obtain ⟨hx, hZ, hby, hml, hown, hnm, hret, hlk⟩ := id C
  replace hown : s.vm.findClass "com/example/gridfare/gridfare/engine/ResidualNetwork" = some m.cls := hown
  unfold f18_0 at hv
  show own_WP p e below _ T (mkF m 0 #[.val (.ref o0), .unset, .unset] [])
  refine own_go (fun _ => XS.aloadN X.here hx rfl (hb hby d18_0) rfl rfl) ?_
  show own_WP p e below _ T (mkF m 1 _ [(.ref o0)])
  obtain ⟨T1, X1, e1, st1⟩ := getF X hx hZ hown (host := "") (Or.inl (hw _ (List.mem_of_getElem? (i := 30) rfl))) Via.refl e0 Fo0_b (g := (mkF m 1 #[.val (.ref o0), .unset, .unset] [(.ref o0)])) rfl rfl (hb hby d18_1)
  refine own_go st1 ?_
  clear st1 X e0
  show own_WP p e below _ T1 (mkF m 4 _ [(.ref qad)])
  refine own_go (own_lenI X1 C e1 V_qad (hb hby d18_4)) ?_
  show own_WP p e below _ T1 (mkF m 5 #[.val (.ref o0), .unset, .unset] [(.int (Int32.ofNat lad.length))])
  by_cases h5 : (Int32.ofNat lad.length) < 0 ∨ 4 < (Int32.ofNat lad.length).toInt
  · cases ((if_pos h5).symm.trans hv)
  replace hv := (if_neg h5).symm.trans hv
  obtain ⟨T2, h2, b5, X2, e2, E2, hb_b5, V_b5, st2⟩ := own_newI X1 C e1 (aty := .int) (ty := .int) rfl rfl rfl (hw _ (List.mem_of_getElem? (i := 2) rfl)) (n := (Int32.ofNat lad.length)) (fun q => h5 (Or.inl q)) (cap := 4) (own_cap (k := 4) rfl (fun q => h5 (Or.inr q))) (by decide) (by decide) (by decide) (pc := 5) (Ls := #[.val (.ref o0), .unset, .unset]) (rest := []) (hb hby d18_5)
  refine own_go st2 ?_
  have o_qre_b5 : qre < b5 := by have q : qre < h.size := V_qre.lt; omega
  have z_b5 : h0.size ≤ b5 := by have q := K.1; omega
  replace E_o0 := E_o0.ext E2
  replace Fo0_b := Fo0_b.ext E2
  replace Fo0_d := Fo0_d.ext E2
  replace Fo0_e := Fo0_e.ext E2
  replace V_qad := V_qad.ext E2
  replace V_qtw := V_qtw.ext E2
  replace V_qre := V_qre.ext E2
  replace K := K.ext E2
  clear st2 E2 hb_b5 X1 e1
  show own_WP p e below _ T2 (mkF m 7 #[.val (.ref o0), .unset, .unset] [(.ref b5)])
  refine own_go (fun _ => XS.astoreN X2.here hx rfl (hb hby d18_7) rfl rfl rfl) ?_
  show own_WP p e below _ T2 (mkF m 8 #[.val (.ref o0), .val (.ref b5), .unset] [])
  refine own_go (fun _ => XS.iconst X2.here hx rfl (hb hby d18_8)) ?_
  show own_WP p e below _ T2 (mkF m 9 #[.val (.ref o0), .val (.ref b5), .unset] [(.int (0 : Int32))])
  refine own_go (fun _ => XS.istoreN X2.here hx rfl (hb hby d18_9) rfl rfl) ?_
  show own_WP p e below _ T2 (mkF m 10 #[.val (.ref o0), .val (.ref b5), .val (.int (0 : Int32))] [])
  exact b18_10 hw C Z0 rr hP 6 X2 e2 N K o_o0_qad o_qad_qtw o_qtw_qre o_qre_b5 g_o0 z_b5 E_o0 Fo0_b Fo0_d Fo0_e V_qad V_qtw V_qre V_b5 (0 : Int32) hv
theorem ef18 (m : MethodId) (o0 : Nat) : entryFrame m #[(.ref o0)] 3 = (mkF m 0 #[.val (.ref o0), .unset, .unset] []) := by first | (simp [entryFrame, mkF, argsToLocals, Value.category]; done) | rfl
theorem pd18 : parseMethodDescriptor "()[I" = some ⟨[], some (.array .int)⟩ := by decide +kernel
theorem pn18 : plainFor (⟨"com/example/gridfare/gridfare/engine/ResidualNetwork", "flows", "()[I"⟩ : MethodName) = true := plainFor_of_name (by first | (simp [plainName, overriddenIn]; done) | decide +kernel)
theorem rm18 (l : Launch) (Z : State) (a0 : Array Value) (hw : ∀ d ∈ tables_1, d.before a0 Z = true) (n0 : Nat) (h0 : Heap) (Z0 : n0 ≤ h0.size) {o0 : Nat} {qad : Nat} {qtw : Nat} {qre : Nat} {lad : List Int32} {ltw : List Int32} {lre : List Int32} (o_o0_qad : o0 < qad) (o_qad_qtw : qad < qtw) (o_qtw_qre : qtw < qre) (g_o0 : n0 ≤ o0) (E_o0 : Exa Z h0 o0 "com/example/gridfare/gridfare/engine/ResidualNetwork") (Fo0_b : Fld Z h0 o0 "com/example/gridfare/gridfare/engine/ResidualNetwork" "added" "[I" (.ref qad)) (Fo0_d : Fld Z h0 o0 "com/example/gridfare/gridfare/engine/ResidualNetwork" "twin" "[I" (.ref qtw)) (Fo0_e : Fld Z h0 o0 "com/example/gridfare/gridfare/engine/ResidualNetwork" "residual" "[I" (.ref qre)) (V_qad : own_AI Z h0 qad .int lad) (V_qtw : own_AI Z h0 qtw .int ltw) (V_qre : own_AI Z h0 qre .int lre)   (rr : (List Int32)) (hf : f18_0 lad ltw lre = some rr) :
    own_Met l Z (⟨"com/example/gridfare/gridfare/engine/ResidualNetwork", "flows", "()[I"⟩ : MethodName) prog_42_method_5_code 3 (some (.array .int)) [] rmR18 #[(.ref o0)] h0 (fun v h L => Fr n0 L ∧ Keep h0 h [] ∧ E18 Z h0 o0 qad qtw qre lad ltw lre rr v h) := by
  refine own_body pn18 ?_
  intro p e s m below meth c s₁ C X e0
  exact own_cast (ef18 m o0) (b18_0 hw C Z0 rr (fun v h L a b c => ⟨a, b, c⟩) X e0 (Fr.nil n0) (Keep.refl h0 []) o_o0_qad o_qad_qtw o_qtw_qre g_o0 E_o0 Fo0_b Fo0_d Fo0_e V_qad V_qtw V_qre hf)
def E0 (Z : State) (h0 : Heap)   (rr : Int32) (v : Option Value) (h : Heap) : Prop := v = some (.int rr)
def f0_432  : Option (Int32) := (some (0 : Int32))
set_option maxRecDepth 65536 in
set_option maxHeartbeats 40000000 in
theorem b0_432 {p : Program} {l : Launch} {e : Env} {s : State} {m : MethodId} {args : Array Value} {below : List Frame} {meth : Method} {c : Code} {Z : State} {a0 : Array Value} {h0 : Heap} {n0 : Nat} {P : Option Value → Heap → List Loc → Prop} (hw : ∀ d ∈ tables_1, d.before a0 Z = true) (C : own_Ctx p s m meth c Z x code maxLocals ret) (Z0 : n0 ≤ h0.size)   (rr : Int32) (hP : ∀ v h L, Fr n0 L → Keep h0 h [] → E0 Z h0  rr v h → P v h L)
    {T : State} {locs : List Loc} {h : Heap} (X : Stand p l e room_1 s m args below meth c T locs 32 160) (e0 : T.heap = h) (N : Fr n0 locs) (K : Keep h0 h []) (x0 : Int32) (x1 : Int32) (x2 : Int32) (x3 : Int32) (x4 : Int64) (x6 : Int32) (x7 : Int32) (x8 : Int32) (x9 : Int32) (x10 : Int32) (x11 : Int64) (x13 : Int32) (x14 : Int32) (s15 : Slot) (hs15 : One s15) (s16 : Slot) (hs16 : One s16) (s17 : Slot) (hs17 : One s17) (s18 : Slot) (hs18 : One s18) (x19 : Int64) (s21 : Slot) (hs21 : One s21) (x22 : Int64) (x24 : Int64) (x26 : Int64) (x28 : Int64) (x30 : Int64) (x32 : Int64) (x34 : Int64) (x36 : Int32) (hv : f0_432 = some rr) :
    own_WP p e below (own_Q s P room_1.cells room_1.slots) T (mkF m 432 #[.val (.int x0), .val (.int x1), .val (.int x2), .val (.int x3), .val (.long x4), .second, .val (.int x6), .val (.int x7), .val (.int x8), .val (.int x9), .val (.int x10), .val (.long x11), .second, .val (.int x13), .val (.int x14), s15, s16, s17, s18, .val (.long x19), .second, s21, .val (.long x22), .second, .val (.long x24), .second, .val (.long x26), .second, .val (.long x28), .second, .val (.long x30), .second, .val (.long x32), .second, .val (.long x34), .second, .val (.int x36)] []) := by
  obtain ⟨hx, hZ, hby, hml, hown, hnm, hret, hlk⟩ := id C
  replace hown : s.vm.findClass "com/example/gridfare/gridfare/engine/ResidualNetworkFlowsPinLaw" = some m.cls := hown
  unfold f0_432 at hv
  show own_WP p e below _ T (mkF m 432 #[.val (.int x0), .val (.int x1), .val (.int x2), .val (.int x3), .val (.long x4), .second, .val (.int x6), .val (.int x7), .val (.int x8), .val (.int x9), .val (.int x10), .val (.long x11), .second, .val (.int x13), .val (.int x14), s15, s16, s17, s18, .val (.long x19), .second, s21, .val (.long x22), .second, .val (.long x24), .second, .val (.long x26), .second, .val (.long x28), .second, .val (.long x30), .second, .val (.long x32), .second, .val (.long x34), .second, .val (.int x36)] [])
  refine own_go (fun _ => XS.iconst X.here hx rfl (hb hby at_432)) ?_
  show own_WP p e below _ T (mkF m 433 #[.val (.int x0), .val (.int x1), .val (.int x2), .val (.int x3), .val (.long x4), .second, .val (.int x6), .val (.int x7), .val (.int x8), .val (.int x9), .val (.int x10), .val (.long x11), .second, .val (.int x13), .val (.int x14), s15, s16, s17, s18, .val (.long x19), .second, s21, .val (.long x22), .second, .val (.long x24), .second, .val (.long x26), .second, .val (.long x28), .second, .val (.long x30), .second, .val (.long x32), .second, .val (.long x34), .second, .val (.int x36)] [(.int (0 : Int32))])
  refine own_go (fun _ => XS.istore X.here hx rfl (hb hby at_433) rfl rfl) ?_
  show own_WP p e below _ T (mkF m 435 #[.val (.int x0), .val (.int x1), .val (.int x2), .val (.int x3), .val (.long x4), .second, .val (.int x6), .val (.int x7), .val (.int x8), .val (.int x9), .val (.int x10), .val (.long x11), .second, .val (.int x13), .val (.int x14), s15, s16, s17, s18, .val (.long x19), .second, s21, .val (.long x22), .second, .val (.long x24), .second, .val (.long x26), .second, .val (.long x28), .second, .val (.long x30), .second, .val (.long x32), .second, .val (.long x34), .second, .val (.int (0 : Int32))] [])
  refine own_go (fun _ => XS.iload X.here hx rfl (hb hby at_435) rfl) ?_
  show own_WP p e below _ T (mkF m 437 #[.val (.int x0), .val (.int x1), .val (.int x2), .val (.int x3), .val (.long x4), .second, .val (.int x6), .val (.int x7), .val (.int x8), .val (.int x9), .val (.int x10), .val (.long x11), .second, .val (.int x13), .val (.int x14), s15, s16, s17, s18, .val (.long x19), .second, s21, .val (.long x22), .second, .val (.long x24), .second, .val (.long x26), .second, .val (.long x28), .second, .val (.long x30), .second, .val (.long x32), .second, .val (.long x34), .second, .val (.int (0 : Int32))] [(.int (0 : Int32))])
  obtain rfl := Option.some.inj hv
  exact own_retN X C (by simp) (hb hby at_437) (by rw [e0]; exact hP _ _ _ N K rfl) (by decide) (by decide)
def f0_388 (x9 : Int32) (x11 : Int64) (x22 : Int64) (x24 : Int64) (x26 : Int64) (x30 : Int64) (x32 : Int64) (t0 : Int32) : Option (Int32) := (if x11 < x32 then (some (nar .boolean t0)) else (if t0 = (0 : Int32) then f0_432 else (if x22 = x30 then (if x24 = x30 then (if x26 = (x9.toInt64) then (some (1 : Int32)) else f0_432) else f0_432) else f0_432)))
set_option maxRecDepth 65536 in
set_option maxHeartbeats 40000000 in
theorem b0_388 {p : Program} {l : Launch} {e : Env} {s : State} {m : MethodId} {args : Array Value} {below : List Frame} {meth : Method} {c : Code} {Z : State} {a0 : Array Value} {h0 : Heap} {n0 : Nat} {P : Option Value → Heap → List Loc → Prop} (hw : ∀ d ∈ tables_1, d.before a0 Z = true) (C : own_Ctx p s m meth c Z x code maxLocals ret) (Z0 : n0 ≤ h0.size)   (rr : Int32) (hP : ∀ v h L, Fr n0 L → Keep h0 h [] → E0 Z h0  rr v h → P v h L)
    {T : State} {locs : List Loc} {h : Heap} (X : Stand p l e room_1 s m args below meth c T locs 32 160) (e0 : T.heap = h) (N : Fr n0 locs) (K : Keep h0 h []) (x0 : Int32) (x1 : Int32) (x2 : Int32) (x3 : Int32) (x4 : Int64) (x6 : Int32) (x7 : Int32) (x8 : Int32) (x9 : Int32) (x10 : Int32) (x11 : Int64) (x13 : Int32) (x14 : Int32) (s15 : Slot) (hs15 : One s15) (s16 : Slot) (hs16 : One s16) (s17 : Slot) (hs17 : One s17) (s18 : Slot) (hs18 : One s18) (x19 : Int64) (s21 : Slot) (hs21 : One s21) (x22 : Int64) (x24 : Int64) (x26 : Int64) (x28 : Int64) (x30 : Int64) (x32 : Int64) (x34 : Int64) (t0 : Int32) (hv : f0_388 x9 x11 x22 x24 x26 x30 x32 t0 = some rr) :
    own_WP p e below (own_Q s P room_1.cells room_1.slots) T (mkF m 388 #[.val (.int x0), .val (.int x1), .val (.int x2), .val (.int x3), .val (.long x4), .second, .val (.int x6), .val (.int x7), .val (.int x8), .val (.int x9), .val (.int x10), .val (.long x11), .second, .val (.int x13), .val (.int x14), s15, s16, s17, s18, .val (.long x19), .second, s21, .val (.long x22), .second, .val (.long x24), .second, .val (.long x26), .second, .val (.long x28), .second, .val (.long x30), .second, .val (.long x32), .second, .val (.long x34), .second, .unset] [(.int t0)]) := by
  obtain ⟨hx, hZ, hby, hml, hown, hnm, hret, hlk⟩ := id C
  replace hown : s.vm.findClass "com/example/gridfare/gridfare/engine/ResidualNetworkFlowsPinLaw" = some m.cls := hown
  unfold f0_388 at hv
  show own_WP p e below _ T (mkF m 388 #[.val (.int x0), .val (.int x1), .val (.int x2), .val (.int x3), .val (.long x4), .second, .val (.int x6), .val (.int x7), .val (.int x8), .val (.int x9), .val (.int x10), .val (.long x11), .second, .val (.int x13), .val (.int x14), s15, s16, s17, s18, .val (.long x19), .second, s21, .val (.long x22), .second, .val (.long x24), .second, .val (.long x26), .second, .val (.long x28), .second, .val (.long x30), .second, .val (.long x32), .second, .val (.long x34), .second, .unset] [(.int t0)])
  refine own_go (fun _ => XS.istore X.here hx rfl (hb hby at_388) rfl rfl) ?_
  show own_WP p e below _ T (mkF m 390 #[.val (.int x0), .val (.int x1), .val (.int x2), .val (.int x3), .val (.long x4), .second, .val (.int x6), .val (.int x7), .val (.int x8), .val (.int x9), .val (.int x10), .val (.long x11), .second, .val (.int x13), .val (.int x14), s15, s16, s17, s18, .val (.long x19), .second, s21, .val (.long x22), .second, .val (.long x24), .second, .val (.long x26), .second, .val (.long x28), .second, .val (.long x30), .second, .val (.long x32), .second, .val (.long x34), .second, .val (.int t0)] [])
  refine own_go (fun _ => XS.lload X.here hx rfl (hb hby at_390) rfl) ?_
  show own_WP p e below _ T (mkF m 392 _ [(.long x11)])
  refine own_go (fun _ => XS.lload X.here hx rfl (hb hby at_392) rfl) ?_
  show own_WP p e below _ T (mkF m 394 _ [(.long x32), (.long x11)])
  refine own_go (fun _ => XT.lcmp X.here hx rfl (hb hby at_394) rfl) ?_
  show own_WP p e below _ T (mkF m 395 _ [(.int (XT.cmpL x11 x32))])
  by_cases h395 : x11 < x32
  · replace hv := (if_pos h395).symm.trans hv
    refine own_go (fun _ => XS.ifYes X.here hx rfl (pc0 := 395) (pc' := 435) rfl (hb hby at_395) rfl (XT.ll_lt_t h395) (by decide) (by decide)) ?_
    show own_WP p e below _ T (mkF m 435 #[.val (.int x0), .val (.int x1), .val (.int x2), .val (.int x3), .val (.long x4), .second, .val (.int x6), .val (.int x7), .val (.int x8), .val (.int x9), .val (.int x10), .val (.long x11), .second, .val (.int x13), .val (.int x14), s15, s16, s17, s18, .val (.long x19), .second, s21, .val (.long x22), .second, .val (.long x24), .second, .val (.long x26), .second, .val (.long x28), .second, .val (.long x30), .second, .val (.long x32), .second, .val (.long x34), .second, .val (.int t0)] [])
    refine own_go (fun _ => XS.iload X.here hx rfl (hb hby at_435) rfl) ?_
    show own_WP p e below _ T (mkF m 437 #[.val (.int x0), .val (.int x1), .val (.int x2), .val (.int x3), .val (.long x4), .second, .val (.int x6), .val (.int x7), .val (.int x8), .val (.int x9), .val (.int x10), .val (.long x11), .second, .val (.int x13), .val (.int x14), s15, s16, s17, s18, .val (.long x19), .second, s21, .val (.long x22), .second, .val (.long x24), .second, .val (.long x26), .second, .val (.long x28), .second, .val (.long x30), .second, .val (.long x32), .second, .val (.long x34), .second, .val (.int t0)] [(.int t0)])
    obtain rfl := Option.some.inj hv
    exact own_retN X C (by simp) (hb hby at_437) (by rw [e0]; exact hP _ _ _ N K rfl) (by decide) (by decide)
  · replace hv := (if_neg h395).symm.trans hv
    refine own_go (fun _ => XS.ifNo X.here hx rfl (hb hby at_395) rfl (XT.ll_lt_f h395)) ?_
    show own_WP p e below _ T (mkF m 398 #[.val (.int x0), .val (.int x1), .val (.int x2), .val (.int x3), .val (.long x4), .second, .val (.int x6), .val (.int x7), .val (.int x8), .val (.int x9), .val (.int x10), .val (.long x11), .second, .val (.int x13), .val (.int x14), s15, s16, s17, s18, .val (.long x19), .second, s21, .val (.long x22), .second, .val (.long x24), .second, .val (.long x26), .second, .val (.long x28), .second, .val (.long x30), .second, .val (.long x32), .second, .val (.long x34), .second, .val (.int t0)] [])
    refine own_go (fun _ => XS.iload X.here hx rfl (hb hby at_398) rfl) ?_
    show own_WP p e below _ T (mkF m 400 _ [(.int t0)])
    by_cases h400 : t0 = (0 : Int32)
    · replace hv := (if_pos h400).symm.trans hv
      refine own_go (fun _ => XS.ifYes X.here hx rfl (pc0 := 400) (pc' := 432) rfl (hb hby at_400) rfl (XT.i0_eq_t h400) (by decide) (by decide)) ?_
      exact b0_432 hw C Z0 rr hP X e0 N K x0 x1 x2 x3 x4 x6 x7 x8 x9 x10 x11 x13 x14 s15 hs15 s16 hs16 s17 hs17 s18 hs18 x19 s21 hs21 x22 x24 x26 x28 x30 x32 x34 t0 hv
    · replace hv := (if_neg h400).symm.trans hv
      refine own_go (fun _ => XS.ifNo X.here hx rfl (hb hby at_400) rfl (XT.i0_eq_f h400)) ?_
      show own_WP p e below _ T (mkF m 403 #[.val (.int x0), .val (.int x1), .val (.int x2), .val (.int x3), .val (.long x4), .second, .val (.int x6), .val (.int x7), .val (.int x8), .val (.int x9), .val (.int x10), .val (.long x11), .second, .val (.int x13), .val (.int x14), s15, s16, s17, s18, .val (.long x19), .second, s21, .val (.long x22), .second, .val (.long x24), .second, .val (.long x26), .second, .val (.long x28), .second, .val (.long x30), .second, .val (.long x32), .second, .val (.long x34), .second, .val (.int t0)] [])
      refine own_go (fun _ => XS.lload X.here hx rfl (hb hby at_403) rfl) ?_
      show own_WP p e below _ T (mkF m 405 _ [(.long x22)])
      refine own_go (fun _ => XS.lload X.here hx rfl (hb hby at_405) rfl) ?_
      show own_WP p e below _ T (mkF m 407 _ [(.long x30), (.long x22)])
      refine own_go (fun _ => XT.lcmp X.here hx rfl (hb hby at_407) rfl) ?_
      show own_WP p e below _ T (mkF m 408 _ [(.int (XT.cmpL x22 x30))])
      by_cases h408 : x22 = x30
      · replace hv := (if_pos h408).symm.trans hv
        refine own_go (fun _ => XS.ifNo X.here hx rfl (hb hby at_408) rfl (XT.ll_ne_f h408)) ?_
        show own_WP p e below _ T (mkF m 411 #[.val (.int x0), .val (.int x1), .val (.int x2), .val (.int x3), .val (.long x4), .second, .val (.int x6), .val (.int x7), .val (.int x8), .val (.int x9), .val (.int x10), .val (.long x11), .second, .val (.int x13), .val (.int x14), s15, s16, s17, s18, .val (.long x19), .second, s21, .val (.long x22), .second, .val (.long x24), .second, .val (.long x26), .second, .val (.long x28), .second, .val (.long x30), .second, .val (.long x32), .second, .val (.long x34), .second, .val (.int t0)] [])
        refine own_go (fun _ => XS.lload X.here hx rfl (hb hby at_411) rfl) ?_
        show own_WP p e below _ T (mkF m 413 _ [(.long x24)])
        refine own_go (fun _ => XS.lload X.here hx rfl (hb hby at_413) rfl) ?_
        show own_WP p e below _ T (mkF m 415 _ [(.long x30), (.long x24)])
        refine own_go (fun _ => XT.lcmp X.here hx rfl (hb hby at_415) rfl) ?_
        show own_WP p e below _ T (mkF m 416 _ [(.int (XT.cmpL x24 x30))])
        by_cases h416 : x24 = x30
        · replace hv := (if_pos h416).symm.trans hv
          refine own_go (fun _ => XS.ifNo X.here hx rfl (hb hby at_416) rfl (XT.ll_ne_f h416)) ?_
          show own_WP p e below _ T (mkF m 419 #[.val (.int x0), .val (.int x1), .val (.int x2), .val (.int x3), .val (.long x4), .second, .val (.int x6), .val (.int x7), .val (.int x8), .val (.int x9), .val (.int x10), .val (.long x11), .second, .val (.int x13), .val (.int x14), s15, s16, s17, s18, .val (.long x19), .second, s21, .val (.long x22), .second, .val (.long x24), .second, .val (.long x26), .second, .val (.long x28), .second, .val (.long x30), .second, .val (.long x32), .second, .val (.long x34), .second, .val (.int t0)] [])
          refine own_go (fun _ => XS.lload X.here hx rfl (hb hby at_419) rfl) ?_
          show own_WP p e below _ T (mkF m 421 _ [(.long x26)])
          refine own_go (fun _ => XS.iload X.here hx rfl (hb hby at_421) rfl) ?_
          show own_WP p e below _ T (mkF m 423 _ [(.int x9), (.long x26)])
          refine own_go (fun _ => XS.i2l X.here hx rfl (hb hby at_423) rfl) ?_
          show own_WP p e below _ T (mkF m 424 _ [(.long (x9.toInt64)), (.long x26)])
          refine own_go (fun _ => XT.lcmp X.here hx rfl (hb hby at_424) rfl) ?_
          show own_WP p e below _ T (mkF m 425 _ [(.int (XT.cmpL x26 (x9.toInt64)))])
          by_cases h425 : x26 = (x9.toInt64)
          · replace hv := (if_pos h425).symm.trans hv
            refine own_go (fun _ => XS.ifNo X.here hx rfl (hb hby at_425) rfl (XT.ll_ne_f h425)) ?_
            show own_WP p e below _ T (mkF m 428 #[.val (.int x0), .val (.int x1), .val (.int x2), .val (.int x3), .val (.long x4), .second, .val (.int x6), .val (.int x7), .val (.int x8), .val (.int x9), .val (.int x10), .val (.long x11), .second, .val (.int x13), .val (.int x14), s15, s16, s17, s18, .val (.long x19), .second, s21, .val (.long x22), .second, .val (.long x24), .second, .val (.long x26), .second, .val (.long x28), .second, .val (.long x30), .second, .val (.long x32), .second, .val (.long x34), .second, .val (.int t0)] [])
            refine own_go (fun _ => XS.iconst X.here hx rfl (hb hby at_428)) ?_
            show own_WP p e below _ T (mkF m 429 _ [(.int (1 : Int32))])
            refine own_go (fun _ => XS.goto X.here hx rfl (pc0 := 429) (pc' := 433) rfl (hb hby at_429) (by decide) (by decide)) ?_
            show own_WP p e below _ T (mkF m 433 #[.val (.int x0), .val (.int x1), .val (.int x2), .val (.int x3), .val (.long x4), .second, .val (.int x6), .val (.int x7), .val (.int x8), .val (.int x9), .val (.int x10), .val (.long x11), .second, .val (.int x13), .val (.int x14), s15, s16, s17, s18, .val (.long x19), .second, s21, .val (.long x22), .second, .val (.long x24), .second, .val (.long x26), .second, .val (.long x28), .second, .val (.long x30), .second, .val (.long x32), .second, .val (.long x34), .second, .val (.int t0)] [(.int (1 : Int32))])
            refine own_go (fun _ => XS.istore X.here hx rfl (hb hby at_433) rfl rfl) ?_
            show own_WP p e below _ T (mkF m 435 #[.val (.int x0), .val (.int x1), .val (.int x2), .val (.int x3), .val (.long x4), .second, .val (.int x6), .val (.int x7), .val (.int x8), .val (.int x9), .val (.int x10), .val (.long x11), .second, .val (.int x13), .val (.int x14), s15, s16, s17, s18, .val (.long x19), .second, s21, .val (.long x22), .second, .val (.long x24), .second, .val (.long x26), .second, .val (.long x28), .second, .val (.long x30), .second, .val (.long x32), .second, .val (.long x34), .second, .val (.int (1 : Int32))] [])
            refine own_go (fun _ => XS.iload X.here hx rfl (hb hby at_435) rfl) ?_
            show own_WP p e below _ T (mkF m 437 #[.val (.int x0), .val (.int x1), .val (.int x2), .val (.int x3), .val (.long x4), .second, .val (.int x6), .val (.int x7), .val (.int x8), .val (.int x9), .val (.int x10), .val (.long x11), .second, .val (.int x13), .val (.int x14), s15, s16, s17, s18, .val (.long x19), .second, s21, .val (.long x22), .second, .val (.long x24), .second, .val (.long x26), .second, .val (.long x28), .second, .val (.long x30), .second, .val (.long x32), .second, .val (.long x34), .second, .val (.int (1 : Int32))] [(.int (1 : Int32))])
            obtain rfl := Option.some.inj hv
            exact own_retN X C (by simp) (hb hby at_437) (by rw [e0]; exact hP _ _ _ N K rfl) (by decide) (by decide)
          · replace hv := (if_neg h425).symm.trans hv
            refine own_go (fun _ => XS.ifYes X.here hx rfl (pc0 := 425) (pc' := 432) rfl (hb hby at_425) rfl (XT.ll_ne_t h425) (by decide) (by decide)) ?_
            exact b0_432 hw C Z0 rr hP X e0 N K x0 x1 x2 x3 x4 x6 x7 x8 x9 x10 x11 x13 x14 s15 hs15 s16 hs16 s17 hs17 s18 hs18 x19 s21 hs21 x22 x24 x26 x28 x30 x32 x34 t0 hv
        · replace hv := (if_neg h416).symm.trans hv
          refine own_go (fun _ => XS.ifYes X.here hx rfl (pc0 := 416) (pc' := 432) rfl (hb hby at_416) rfl (XT.ll_ne_t h416) (by decide) (by decide)) ?_
          exact b0_432 hw C Z0 rr hP X e0 N K x0 x1 x2 x3 x4 x6 x7 x8 x9 x10 x11 x13 x14 s15 hs15 s16 hs16 s17 hs17 s18 hs18 x19 s21 hs21 x22 x24 x26 x28 x30 x32 x34 t0 hv
      · replace hv := (if_neg h408).symm.trans hv
        refine own_go (fun _ => XS.ifYes X.here hx rfl (pc0 := 408) (pc' := 432) rfl (hb hby at_408) rfl (XT.ll_ne_t h408) (by decide) (by decide)) ?_
        exact b0_432 hw C Z0 rr hP X e0 N K x0 x1 x2 x3 x4 x6 x7 x8 x9 x10 x11 x13 x14 s15 hs15 s16 hs16 s17 hs17 s18 hs18 x19 s21 hs21 x22 x24 x26 x28 x30 x32 x34 t0 hv
def f0_387 (x9 : Int32) (x11 : Int64) (x22 : Int64) (x24 : Int64) (x26 : Int64) (x30 : Int64) (x32 : Int64) : Option (Int32) := (f0_388 x9 x11 x22 x24 x26 x30 x32 (0 : Int32))
set_option maxRecDepth 65536 in
set_option maxHeartbeats 40000000 in
theorem b0_387 {p : Program} {l : Launch} {e : Env} {s : State} {m : MethodId} {args : Array Value} {below : List Frame} {meth : Method} {c : Code} {Z : State} {a0 : Array Value} {h0 : Heap} {n0 : Nat} {P : Option Value → Heap → List Loc → Prop} (hw : ∀ d ∈ tables_1, d.before a0 Z = true) (C : own_Ctx p s m meth c Z x code maxLocals ret) (Z0 : n0 ≤ h0.size)   (rr : Int32) (hP : ∀ v h L, Fr n0 L → Keep h0 h [] → E0 Z h0  rr v h → P v h L)
    {T : State} {locs : List Loc} {h : Heap} (X : Stand p l e room_1 s m args below meth c T locs 32 160) (e0 : T.heap = h) (N : Fr n0 locs) (K : Keep h0 h []) (x0 : Int32) (x1 : Int32) (x2 : Int32) (x3 : Int32) (x4 : Int64) (x6 : Int32) (x7 : Int32) (x8 : Int32) (x9 : Int32) (x10 : Int32) (x11 : Int64) (x13 : Int32) (x14 : Int32) (s15 : Slot) (hs15 : One s15) (s16 : Slot) (hs16 : One s16) (s17 : Slot) (hs17 : One s17) (s18 : Slot) (hs18 : One s18) (x19 : Int64) (s21 : Slot) (hs21 : One s21) (x22 : Int64) (x24 : Int64) (x26 : Int64) (x28 : Int64) (x30 : Int64) (x32 : Int64) (x34 : Int64) (hv : f0_387 x9 x11 x22 x24 x26 x30 x32 = some rr) :
    own_WP p e below (own_Q s P room_1.cells room_1.slots) T (mkF m 387 #[.val (.int x0), .val (.int x1), .val (.int x2), .val (.int x3), .val (.long x4), .second, .val (.int x6), .val (.int x7), .val (.int x8), .val (.int x9), .val (.int x10), .val (.long x11), .second, .val (.int x13), .val (.int x14), s15, s16, s17, s18, .val (.long x19), .second, s21, .val (.long x22), .second, .val (.long x24), .second, .val (.long x26), .second, .val (.long x28), .second, .val (.long x30), .second, .val (.long x32), .second, .val (.long x34), .second, .unset] []) := by
  obtain ⟨hx, hZ, hby, hml, hown, hnm, hret, hlk⟩ := id C
  replace hown : s.vm.findClass "com/example/gridfare/gridfare/engine/ResidualNetworkFlowsPinLaw" = some m.cls := hown
  unfold f0_387 at hv
  show own_WP p e below _ T (mkF m 387 #[.val (.int x0), .val (.int x1), .val (.int x2), .val (.int x3), .val (.long x4), .second, .val (.int x6), .val (.int x7), .val (.int x8), .val (.int x9), .val (.int x10), .val (.long x11), .second, .val (.int x13), .val (.int x14), s15, s16, s17, s18, .val (.long x19), .second, s21, .val (.long x22), .second, .val (.long x24), .second, .val (.long x26), .second, .val (.long x28), .second, .val (.long x30), .second, .val (.long x32), .second, .val (.long x34), .second, .unset] [])
  refine own_go (fun _ => XS.iconst X.here hx rfl (hb hby at_387)) ?_
  exact b0_388 hw C Z0 rr hP X e0 N K x0 x1 x2 x3 x4 x6 x7 x8 x9 x10 x11 x13 x14 s15 hs15 s16 hs16 s17 hs17 s18 hs18 x19 s21 hs21 x22 x24 x26 x28 x30 x32 x34 (0 : Int32) hv
def f0_222 (v_b208 : List Int32) (x7 : Int32) (x8 : Int32) (x9 : Int32) (x11 : Int64) (x13 : Int32) (x19 : Int64) : Option (Int32) := ((own_get v_b208 (((0 : Int32) - x13) &&& (3 : Int32))).bind fun w15 => ((own_get v_b208 (((1 : Int32) - x13) &&& (3 : Int32))).bind fun w16 => ((own_get v_b208 (((2 : Int32) - x13) &&& (3 : Int32))).bind fun w17 => ((own_get v_b208 (((3 : Int32) - x13) &&& (3 : Int32))).bind fun w18 => (own_let ((f16_0 (x7.toInt64) (x8.toInt64)) + (x9.toInt64)) fun y20 => (if x19 = (f16_0 x11 y20) then (if (w18.toInt64) = (0 : Int64) then (if (w15.toInt64) < (0 : Int64) then (f0_387 x9 x11 (w15.toInt64) (w16.toInt64) (w17.toInt64) (f16_0 (x7.toInt64) (x8.toInt64)) y20) else (if (x7.toInt64) < (w15.toInt64) then (f0_387 x9 x11 (w15.toInt64) (w16.toInt64) (w17.toInt64) (f16_0 (x7.toInt64) (x8.toInt64)) y20) else (if (w16.toInt64) < (0 : Int64) then (f0_387 x9 x11 (w15.toInt64) (w16.toInt64) (w17.toInt64) (f16_0 (x7.toInt64) (x8.toInt64)) y20) else (if (x8.toInt64) < (w16.toInt64) then (f0_387 x9 x11 (w15.toInt64) (w16.toInt64) (w17.toInt64) (f16_0 (x7.toInt64) (x8.toInt64)) y20) else (if (w17.toInt64) < (0 : Int64) then (f0_387 x9 x11 (w15.toInt64) (w16.toInt64) (w17.toInt64) (f16_0 (x7.toInt64) (x8.toInt64)) y20) else (if (x9.toInt64) < (w17.toInt64) then (f0_387 x9 x11 (w15.toInt64) (w16.toInt64) (w17.toInt64) (f16_0 (x7.toInt64) (x8.toInt64)) y20) else (if ((w15.toInt64) + (w18.toInt64)) = (w16.toInt64) then (if ((w15.toInt64) + (w17.toInt64)) = (f16_0 x11 y20) then (f0_388 x9 x11 (w15.toInt64) (w16.toInt64) (w17.toInt64) (f16_0 (x7.toInt64) (x8.toInt64)) y20 (1 : Int32)) else (f0_387 x9 x11 (w15.toInt64) (w16.toInt64) (w17.toInt64) (f16_0 (x7.toInt64) (x8.toInt64)) y20)) else (f0_387 x9 x11 (w15.toInt64) (w16.toInt64) (w17.toInt64) (f16_0 (x7.toInt64) (x8.toInt64)) y20)))))))) else (f0_387 x9 x11 (w15.toInt64) (w16.toInt64) (w17.toInt64) (f16_0 (x7.toInt64) (x8.toInt64)) y20)) else (f0_387 x9 x11 (w15.toInt64) (w16.toInt64) (w17.toInt64) (f16_0 (x7.toInt64) (x8.toInt64)) y20)))))))
set_option maxRecDepth 65536 in
set_option maxHeartbeats 40000000 in
theorem b0_222 {p : Program} {l : Launch} {e : Env} {s : State} {m : MethodId} {args : Array Value} {below : List Frame} {meth : Method} {c : Code} {Z : State} {a0 : Array Value} {h0 : Heap} {n0 : Nat} {P : Option Value → Heap → List Loc → Prop} (hw : ∀ d ∈ tables_1, d.before a0 Z = true) (C : own_Ctx p s m meth c Z x code maxLocals ret) (Z0 : n0 ≤ h0.size)   (rr : Int32) (hP : ∀ v h L, Fr n0 L → Keep h0 h [] → E0 Z h0  rr v h → P v h L)
    {T : State} {locs : List Loc} {h : Heap} {b208 : Nat} {v_b208 : List Int32} (X : Stand p l e room_1 s m args below meth c T locs 32 160) (e0 : T.heap = h) (N : Fr n0 locs) (K : Keep h0 h []) (g_b208 : n0 ≤ b208) (z_b208 : h0.size ≤ b208) (V_b208 : own_AI Z h b208 .int v_b208) (x0 : Int32) (x1 : Int32) (x2 : Int32) (x3 : Int32) (x4 : Int64) (x6 : Int32) (x7 : Int32) (x8 : Int32) (x9 : Int32) (x10 : Int32) (x11 : Int64) (x13 : Int32) (x14 : Int32) (s15 : Slot) (hs15 : One s15) (s16 : Slot) (hs16 : One s16) (s17 : Slot) (hs17 : One s17) (s18 : Slot) (hs18 : One s18) (x19 : Int64) (hv : f0_222 v_b208 x7 x8 x9 x11 x13 x19 = some rr) :
    own_WP p e below (own_Q s P room_1.cells room_1.slots) T (mkF m 222 #[.val (.int x0), .val (.int x1), .val (.int x2), .val (.int x3), .val (.long x4), .second, .val (.int x6), .val (.int x7), .val (.int x8), .val (.int x9), .val (.int x10), .val (.long x11), .second, .val (.int x13), .val (.int x14), s15, s16, s17, s18, .val (.long x19), .second, .val (.ref b208), .unset, .unset, .unset, .unset, .unset, .unset, .unset, .unset, .unset, .unset, .unset, .unset, .unset, .unset, .unset] []) := by
  obtain ⟨hx, hZ, hby, hml, hown, hnm, hret, hlk⟩ := id C
  replace hown : s.vm.findClass "com/example/gridfare/gridfare/engine/ResidualNetworkFlowsPinLaw" = some m.cls := hown
  unfold f0_222 at hv
  show own_WP p e below _ T (mkF m 222 #[.val (.int x0), .val (.int x1), .val (.int x2), .val (.int x3), .val (.long x4), .second, .val (.int x6), .val (.int x7), .val (.int x8), .val (.int x9), .val (.int x10), .val (.long x11), .second, .val (.int x13), .val (.int x14), s15, s16, s17, s18, .val (.long x19), .second, .val (.ref b208), .unset, .unset, .unset, .unset, .unset, .unset, .unset, .unset, .unset, .unset, .unset, .unset, .unset, .unset, .unset] [])
  refine own_go (fun _ => XS.aload X.here hx rfl (hb hby at_222) rfl rfl) ?_
  show own_WP p e below _ T (mkF m 224 _ [(.ref b208)])
  refine own_go (fun _ => XS.iconst X.here hx rfl (hb hby at_224)) ?_
  show own_WP p e below _ T (mkF m 225 _ [(.int (0 : Int32)), (.ref b208)])
  refine own_go (fun _ => XS.iload X.here hx rfl (hb hby at_225) rfl) ?_
  show own_WP p e below _ T (mkF m 227 _ [(.int x13), (.int (0 : Int32)), (.ref b208)])
  refine own_go (fun _ => XS.isub X.here hx rfl (hb hby at_227) rfl) ?_
  show own_WP p e below _ T (mkF m 228 _ [(.int ((0 : Int32) - x13)), (.ref b208)])
  refine own_go (fun _ => XS.iconst X.here hx rfl (hb hby at_228)) ?_
  show own_WP p e below _ T (mkF m 229 _ [(.int (3 : Int32)), (.int ((0 : Int32) - x13)), (.ref b208)])
  refine own_go (fun _ => XS.iand X.here hx rfl (hb hby at_229) rfl) ?_
  show own_WP p e below _ T (mkF m 230 _ [(.int (((0 : Int32) - x13) &&& (3 : Int32))), (.ref b208)])
  obtain ⟨w15, hg15, hv⟩ := own_bind hv
  refine own_go (own_iaload X C e0 V_b208 hg15 (hb hby at_230)) ?_
  show own_WP p e below _ T (mkF m 231 _ [(.int w15)])
  refine own_go (fun _ => XS.i2l X.here hx rfl (hb hby at_231) rfl) ?_
  show own_WP p e below _ T (mkF m 232 #[.val (.int x0), .val (.int x1), .val (.int x2), .val (.int x3), .val (.long x4), .second, .val (.int x6), .val (.int x7), .val (.int x8), .val (.int x9), .val (.int x10), .val (.long x11), .second, .val (.int x13), .val (.int x14), s15, s16, s17, s18, .val (.long x19), .second, .val (.ref b208), .unset, .unset, .unset, .unset, .unset, .unset, .unset, .unset, .unset, .unset, .unset, .unset, .unset, .unset, .unset] [(.long (w15.toInt64))])
  refine own_go (fun _ => XS.lstore X.here hx rfl (hb hby at_232) rfl rfl) ?_
  show own_WP p e below _ T (mkF m 234 #[.val (.int x0), .val (.int x1), .val (.int x2), .val (.int x3), .val (.long x4), .second, .val (.int x6), .val (.int x7), .val (.int x8), .val (.int x9), .val (.int x10), .val (.long x11), .second, .val (.int x13), .val (.int x14), s15, s16, s17, s18, .val (.long x19), .second, .val (.ref b208), .val (.long (w15.toInt64)), .second, .unset, .unset, .unset, .unset, .unset, .unset, .unset, .unset, .unset, .unset, .unset, .unset, .unset] [])
  refine own_go (fun _ => XS.aload X.here hx rfl (hb hby at_234) rfl rfl) ?_
  show own_WP p e below _ T (mkF m 236 _ [(.ref b208)])
  refine own_go (fun _ => XS.iconst X.here hx rfl (hb hby at_236)) ?_
  show own_WP p e below _ T (mkF m 237 _ [(.int (1 : Int32)), (.ref b208)])
  refine own_go (fun _ => XS.iload X.here hx rfl (hb hby at_237) rfl) ?_
  show own_WP p e below _ T (mkF m 239 _ [(.int x13), (.int (1 : Int32)), (.ref b208)])
  refine own_go (fun _ => XS.isub X.here hx rfl (hb hby at_239) rfl) ?_
  show own_WP p e below _ T (mkF m 240 _ [(.int ((1 : Int32) - x13)), (.ref b208)])
  refine own_go (fun _ => XS.iconst X.here hx rfl (hb hby at_240)) ?_
  show own_WP p e below _ T (mkF m 241 _ [(.int (3 : Int32)), (.int ((1 : Int32) - x13)), (.ref b208)])
  refine own_go (fun _ => XS.iand X.here hx rfl (hb hby at_241) rfl) ?_
  show own_WP p e below _ T (mkF m 242 _ [(.int (((1 : Int32) - x13) &&& (3 : Int32))), (.ref b208)])
  obtain ⟨w16, hg16, hv⟩ := own_bind hv
  refine own_go (own_iaload X C e0 V_b208 hg16 (hb hby at_242)) ?_
  show own_WP p e below _ T (mkF m 243 _ [(.int w16)])
  refine own_go (fun _ => XS.i2l X.here hx rfl (hb hby at_243) rfl) ?_
  show own_WP p e below _ T (mkF m 244 #[.val (.int x0), .val (.int x1), .val (.int x2), .val (.int x3), .val (.long x4), .second, .val (.int x6), .val (.int x7), .val (.int x8), .val (.int x9), .val (.int x10), .val (.long x11), .second, .val (.int x13), .val (.int x14), s15, s16, s17, s18, .val (.long x19), .second, .val (.ref b208), .val (.long (w15.toInt64)), .second, .unset, .unset, .unset, .unset, .unset, .unset, .unset, .unset, .unset, .unset, .unset, .unset, .unset] [(.long (w16.toInt64))])
  refine own_go (fun _ => XS.lstore X.here hx rfl (hb hby at_244) rfl rfl) ?_
  show own_WP p e below _ T (mkF m 246 #[.val (.int x0), .val (.int x1), .val (.int x2), .val (.int x3), .val (.long x4), .second, .val (.int x6), .val (.int x7), .val (.int x8), .val (.int x9), .val (.int x10), .val (.long x11), .second, .val (.int x13), .val (.int x14), s15, s16, s17, s18, .val (.long x19), .second, .val (.ref b208), .val (.long (w15.toInt64)), .second, .val (.long (w16.toInt64)), .second, .unset, .unset, .unset, .unset, .unset, .unset, .unset, .unset, .unset, .unset, .unset] [])
  refine own_go (fun _ => XS.aload X.here hx rfl (hb hby at_246) rfl rfl) ?_
  show own_WP p e below _ T (mkF m 248 _ [(.ref b208)])
  refine own_go (fun _ => XS.iconst X.here hx rfl (hb hby at_248)) ?_
  show own_WP p e below _ T (mkF m 249 _ [(.int (2 : Int32)), (.ref b208)])
  refine own_go (fun _ => XS.iload X.here hx rfl (hb hby at_249) rfl) ?_
  show own_WP p e below _ T (mkF m 251 _ [(.int x13), (.int (2 : Int32)), (.ref b208)])
  refine own_go (fun _ => XS.isub X.here hx rfl (hb hby at_251) rfl) ?_
  show own_WP p e below _ T (mkF m 252 _ [(.int ((2 : Int32) - x13)), (.ref b208)])
  refine own_go (fun _ => XS.iconst X.here hx rfl (hb hby at_252)) ?_
  show own_WP p e below _ T (mkF m 253 _ [(.int (3 : Int32)), (.int ((2 : Int32) - x13)), (.ref b208)])
  refine own_go (fun _ => XS.iand X.here hx rfl (hb hby at_253) rfl) ?_
  show own_WP p e below _ T (mkF m 254 _ [(.int (((2 : Int32) - x13) &&& (3 : Int32))), (.ref b208)])
  obtain ⟨w17, hg17, hv⟩ := own_bind hv
  refine own_go (own_iaload X C e0 V_b208 hg17 (hb hby at_254)) ?_
  show own_WP p e below _ T (mkF m 255 _ [(.int w17)])
  refine own_go (fun _ => XS.i2l X.here hx rfl (hb hby at_255) rfl) ?_
  show own_WP p e below _ T (mkF m 256 #[.val (.int x0), .val (.int x1), .val (.int x2), .val (.int x3), .val (.long x4), .second, .val (.int x6), .val (.int x7), .val (.int x8), .val (.int x9), .val (.int x10), .val (.long x11), .second, .val (.int x13), .val (.int x14), s15, s16, s17, s18, .val (.long x19), .second, .val (.ref b208), .val (.long (w15.toInt64)), .second, .val (.long (w16.toInt64)), .second, .unset, .unset, .unset, .unset, .unset, .unset, .unset, .unset, .unset, .unset, .unset] [(.long (w17.toInt64))])
  refine own_go (fun _ => XS.lstore X.here hx rfl (hb hby at_256) rfl rfl) ?_
  show own_WP p e below _ T (mkF m 258 #[.val (.int x0), .val (.int x1), .val (.int x2), .val (.int x3), .val (.long x4), .second, .val (.int x6), .val (.int x7), .val (.int x8), .val (.int x9), .val (.int x10), .val (.long x11), .second, .val (.int x13), .val (.int x14), s15, s16, s17, s18, .val (.long x19), .second, .val (.ref b208), .val (.long (w15.toInt64)), .second, .val (.long (w16.toInt64)), .second, .val (.long (w17.toInt64)), .second, .unset, .unset, .unset, .unset, .unset, .unset, .unset, .unset, .unset] [])
  refine own_go (fun _ => XS.aload X.here hx rfl (hb hby at_258) rfl rfl) ?_
  show own_WP p e below _ T (mkF m 260 _ [(.ref b208)])
  refine own_go (fun _ => XS.iconst X.here hx rfl (hb hby at_260)) ?_
  show own_WP p e below _ T (mkF m 261 _ [(.int (3 : Int32)), (.ref b208)])
  refine own_go (fun _ => XS.iload X.here hx rfl (hb hby at_261) rfl) ?_
  show own_WP p e below _ T (mkF m 263 _ [(.int x13), (.int (3 : Int32)), (.ref b208)])
  refine own_go (fun _ => XS.isub X.here hx rfl (hb hby at_263) rfl) ?_
  show own_WP p e below _ T (mkF m 264 _ [(.int ((3 : Int32) - x13)), (.ref b208)])
  refine own_go (fun _ => XS.iconst X.here hx rfl (hb hby at_264)) ?_
  show own_WP p e below _ T (mkF m 265 _ [(.int (3 : Int32)), (.int ((3 : Int32) - x13)), (.ref b208)])
  refine own_go (fun _ => XS.iand X.here hx rfl (hb hby at_265) rfl) ?_
  show own_WP p e below _ T (mkF m 266 _ [(.int (((3 : Int32) - x13) &&& (3 : Int32))), (.ref b208)])
  obtain ⟨w18, hg18, hv⟩ := own_bind hv
  refine own_go (own_iaload X C e0 V_b208 hg18 (hb hby at_266)) ?_
  show own_WP p e below _ T (mkF m 267 _ [(.int w18)])
  refine own_go (fun _ => XS.i2l X.here hx rfl (hb hby at_267) rfl) ?_
  show own_WP p e below _ T (mkF m 268 #[.val (.int x0), .val (.int x1), .val (.int x2), .val (.int x3), .val (.long x4), .second, .val (.int x6), .val (.int x7), .val (.int x8), .val (.int x9), .val (.int x10), .val (.long x11), .second, .val (.int x13), .val (.int x14), s15, s16, s17, s18, .val (.long x19), .second, .val (.ref b208), .val (.long (w15.toInt64)), .second, .val (.long (w16.toInt64)), .second, .val (.long (w17.toInt64)), .second, .unset, .unset, .unset, .unset, .unset, .unset, .unset, .unset, .unset] [(.long (w18.toInt64))])
  refine own_go (fun _ => XS.lstore X.here hx rfl (hb hby at_268) rfl rfl) ?_
  clear V_b208
  show own_WP p e below _ T (mkF m 270 #[.val (.int x0), .val (.int x1), .val (.int x2), .val (.int x3), .val (.long x4), .second, .val (.int x6), .val (.int x7), .val (.int x8), .val (.int x9), .val (.int x10), .val (.long x11), .second, .val (.int x13), .val (.int x14), s15, s16, s17, s18, .val (.long x19), .second, .val (.ref b208), .val (.long (w15.toInt64)), .second, .val (.long (w16.toInt64)), .second, .val (.long (w17.toInt64)), .second, .val (.long (w18.toInt64)), .second, .unset, .unset, .unset, .unset, .unset, .unset, .unset] [])
  refine own_go (fun _ => XS.iload X.here hx rfl (hb hby at_270) rfl) ?_
  show own_WP p e below _ T (mkF m 272 _ [(.int x7)])
  refine own_go (fun _ => XS.i2l X.here hx rfl (hb hby at_272) rfl) ?_
  show own_WP p e below _ T (mkF m 273 _ [(.long (x7.toInt64))])
  refine own_go (fun _ => XS.iload X.here hx rfl (hb hby at_273) rfl) ?_
  show own_WP p e below _ T (mkF m 275 _ [(.int x8), (.long (x7.toInt64))])
  refine own_go (fun _ => XS.i2l X.here hx rfl (hb hby at_275) rfl) ?_
  show own_WP p e below _ T (mkF m 276 #[.val (.int x0), .val (.int x1), .val (.int x2), .val (.int x3), .val (.long x4), .second, .val (.int x6), .val (.int x7), .val (.int x8), .val (.int x9), .val (.int x10), .val (.long x11), .second, .val (.int x13), .val (.int x14), s15, s16, s17, s18, .val (.long x19), .second, .val (.ref b208), .val (.long (w15.toInt64)), .second, .val (.long (w16.toInt64)), .second, .val (.long (w17.toInt64)), .second, .val (.long (w18.toInt64)), .second, .unset, .unset, .unset, .unset, .unset, .unset, .unset] [(.long (x8.toInt64)), (.long (x7.toInt64))])
  obtain ⟨T19, v19, L19, X19, ⟨rfl, rfl, e19⟩, st19⟩ := own_callS X C (rm16 l Z a0 hw (x7.toInt64) (x8.toInt64) h) (hw _ (List.mem_of_getElem? (i := 145) rfl)) (hw _ (List.mem_of_getElem? (i := 134) rfl)) (hw _ (List.mem_of_getElem? (i := 26) rfl)) (hw _ (List.mem_of_getElem? (i := 135) rfl)) (by decide) e0 (W := 0) (pc := 276) (Ls := #[.val (.int x0), .val (.int x1), .val (.int x2), .val (.int x3), .val (.long x4), .second, .val (.int x6), .val (.int x7), .val (.int x8), .val (.int x9), .val (.int x10), .val (.long x11), .second, .val (.int x13), .val (.int x14), s15, s16, s17, s18, .val (.long x19), .second, .val (.ref b208), .val (.long (w15.toInt64)), .second, .val (.long (w16.toInt64)), .second, .val (.long (w17.toInt64)), .second, .val (.long (w18.toInt64)), .second, .unset, .unset, .unset, .unset, .unset, .unset, .unset]) rfl (lenOf pd16 rfl) (rest := []) (stk := [(.long (x8.toInt64)), (.long (x7.toInt64))]) rfl (Nat.le_of_ble_eq_true rfl) (hb hby at_276) (by decide) (by decide) (by decide) (by decide)
  rw [List.append_nil] at X19
  refine own_go st19 ?_
  clear st19 X e0
  show own_WP p e below _ T19 (mkF m 279 #[.val (.int x0), .val (.int x1), .val (.int x2), .val (.int x3), .val (.long x4), .second, .val (.int x6), .val (.int x7), .val (.int x8), .val (.int x9), .val (.int x10), .val (.long x11), .second, .val (.int x13), .val (.int x14), s15, s16, s17, s18, .val (.long x19), .second, .val (.ref b208), .val (.long (w15.toInt64)), .second, .val (.long (w16.toInt64)), .second, .val (.long (w17.toInt64)), .second, .val (.long (w18.toInt64)), .second, .unset, .unset, .unset, .unset, .unset, .unset, .unset] [(.long (f16_0 (x7.toInt64) (x8.toInt64)))])
  refine own_go (fun _ => XS.lstore X19.here hx rfl (hb hby at_279) rfl rfl) ?_
  show own_WP p e below _ T19 (mkF m 281 #[.val (.int x0), .val (.int x1), .val (.int x2), .val (.int x3), .val (.long x4), .second, .val (.int x6), .val (.int x7), .val (.int x8), .val (.int x9), .val (.int x10), .val (.long x11), .second, .val (.int x13), .val (.int x14), s15, s16, s17, s18, .val (.long x19), .second, .val (.ref b208), .val (.long (w15.toInt64)), .second, .val (.long (w16.toInt64)), .second, .val (.long (w17.toInt64)), .second, .val (.long (w18.toInt64)), .second, .val (.long (f16_0 (x7.toInt64) (x8.toInt64))), .second, .unset, .unset, .unset, .unset, .unset] [])
  refine own_go (fun _ => XS.lload X19.here hx rfl (hb hby at_281) rfl) ?_
  show own_WP p e below _ T19 (mkF m 283 _ [(.long (f16_0 (x7.toInt64) (x8.toInt64)))])
  refine own_go (fun _ => XS.iload X19.here hx rfl (hb hby at_283) rfl) ?_
  show own_WP p e below _ T19 (mkF m 285 _ [(.int x9), (.long (f16_0 (x7.toInt64) (x8.toInt64)))])
  refine own_go (fun _ => XS.i2l X19.here hx rfl (hb hby at_285) rfl) ?_
  show own_WP p e below _ T19 (mkF m 286 _ [(.long (x9.toInt64)), (.long (f16_0 (x7.toInt64) (x8.toInt64)))])
  refine own_go (fun _ => XS.ladd X19.here hx rfl (hb hby at_286) rfl) ?_
  show own_WP p e below _ T19 (mkF m 287 #[.val (.int x0), .val (.int x1), .val (.int x2), .val (.int x3), .val (.long x4), .second, .val (.int x6), .val (.int x7), .val (.int x8), .val (.int x9), .val (.int x10), .val (.long x11), .second, .val (.int x13), .val (.int x14), s15, s16, s17, s18, .val (.long x19), .second, .val (.ref b208), .val (.long (w15.toInt64)), .second, .val (.long (w16.toInt64)), .second, .val (.long (w17.toInt64)), .second, .val (.long (w18.toInt64)), .second, .val (.long (f16_0 (x7.toInt64) (x8.toInt64))), .second, .unset, .unset, .unset, .unset, .unset] [(.long ((f16_0 (x7.toInt64) (x8.toInt64)) + (x9.toInt64)))])
  generalize ((f16_0 (x7.toInt64) (x8.toInt64)) + (x9.toInt64)) = y20 at hv ⊢
  replace hv := own_letE hv
  show own_WP p e below _ T19 (mkF m 287 #[.val (.int x0), .val (.int x1), .val (.int x2), .val (.int x3), .val (.long x4), .second, .val (.int x6), .val (.int x7), .val (.int x8), .val (.int x9), .val (.int x10), .val (.long x11), .second, .val (.int x13), .val (.int x14), s15, s16, s17, s18, .val (.long x19), .second, .val (.ref b208), .val (.long (w15.toInt64)), .second, .val (.long (w16.toInt64)), .second, .val (.long (w17.toInt64)), .second, .val (.long (w18.toInt64)), .second, .val (.long (f16_0 (x7.toInt64) (x8.toInt64))), .second, .unset, .unset, .unset, .unset, .unset] [(.long y20)])
  refine own_go (fun _ => XS.lstore X19.here hx rfl (hb hby at_287) rfl rfl) ?_
  show own_WP p e below _ T19 (mkF m 289 #[.val (.int x0), .val (.int x1), .val (.int x2), .val (.int x3), .val (.long x4), .second, .val (.int x6), .val (.int x7), .val (.int x8), .val (.int x9), .val (.int x10), .val (.long x11), .second, .val (.int x13), .val (.int x14), s15, s16, s17, s18, .val (.long x19), .second, .val (.ref b208), .val (.long (w15.toInt64)), .second, .val (.long (w16.toInt64)), .second, .val (.long (w17.toInt64)), .second, .val (.long (w18.toInt64)), .second, .val (.long (f16_0 (x7.toInt64) (x8.toInt64))), .second, .val (.long y20), .second, .unset, .unset, .unset] [])
  refine own_go (fun _ => XS.lload X19.here hx rfl (hb hby at_289) rfl) ?_
  show own_WP p e below _ T19 (mkF m 291 _ [(.long x11)])
  refine own_go (fun _ => XS.lload X19.here hx rfl (hb hby at_291) rfl) ?_
  show own_WP p e below _ T19 (mkF m 293 #[.val (.int x0), .val (.int x1), .val (.int x2), .val (.int x3), .val (.long x4), .second, .val (.int x6), .val (.int x7), .val (.int x8), .val (.int x9), .val (.int x10), .val (.long x11), .second, .val (.int x13), .val (.int x14), s15, s16, s17, s18, .val (.long x19), .second, .val (.ref b208), .val (.long (w15.toInt64)), .second, .val (.long (w16.toInt64)), .second, .val (.long (w17.toInt64)), .second, .val (.long (w18.toInt64)), .second, .val (.long (f16_0 (x7.toInt64) (x8.toInt64))), .second, .val (.long y20), .second, .unset, .unset, .unset] [(.long y20), (.long x11)])
  obtain ⟨T21, v21, L21, X21, ⟨rfl, rfl, e21⟩, st21⟩ := own_callS X19 C (rm16 l Z a0 hw x11 y20 h) (hw _ (List.mem_of_getElem? (i := 145) rfl)) (hw _ (List.mem_of_getElem? (i := 134) rfl)) (hw _ (List.mem_of_getElem? (i := 26) rfl)) (hw _ (List.mem_of_getElem? (i := 135) rfl)) (by decide) e19 (W := 0) (pc := 293) (Ls := #[.val (.int x0), .val (.int x1), .val (.int x2), .val (.int x3), .val (.long x4), .second, .val (.int x6), .val (.int x7), .val (.int x8), .val (.int x9), .val (.int x10), .val (.long x11), .second, .val (.int x13), .val (.int x14), s15, s16, s17, s18, .val (.long x19), .second, .val (.ref b208), .val (.long (w15.toInt64)), .second, .val (.long (w16.toInt64)), .second, .val (.long (w17.toInt64)), .second, .val (.long (w18.toInt64)), .second, .val (.long (f16_0 (x7.toInt64) (x8.toInt64))), .second, .val (.long y20), .second, .unset, .unset, .unset]) rfl (lenOf pd16 rfl) (rest := []) (stk := [(.long y20), (.long x11)]) rfl (Nat.le_of_ble_eq_true rfl) (hb hby at_293) (by decide) (by decide) (by decide) (by decide)
  rw [List.append_nil] at X21
  refine own_go st21 ?_
  clear st21 X19 e19
  show own_WP p e below _ T21 (mkF m 296 #[.val (.int x0), .val (.int x1), .val (.int x2), .val (.int x3), .val (.long x4), .second, .val (.int x6), .val (.int x7), .val (.int x8), .val (.int x9), .val (.int x10), .val (.long x11), .second, .val (.int x13), .val (.int x14), s15, s16, s17, s18, .val (.long x19), .second, .val (.ref b208), .val (.long (w15.toInt64)), .second, .val (.long (w16.toInt64)), .second, .val (.long (w17.toInt64)), .second, .val (.long (w18.toInt64)), .second, .val (.long (f16_0 (x7.toInt64) (x8.toInt64))), .second, .val (.long y20), .second, .unset, .unset, .unset] [(.long (f16_0 x11 y20))])
  refine own_go (fun _ => XS.lstore X21.here hx rfl (hb hby at_296) rfl rfl) ?_
  show own_WP p e below _ T21 (mkF m 298 #[.val (.int x0), .val (.int x1), .val (.int x2), .val (.int x3), .val (.long x4), .second, .val (.int x6), .val (.int x7), .val (.int x8), .val (.int x9), .val (.int x10), .val (.long x11), .second, .val (.int x13), .val (.int x14), s15, s16, s17, s18, .val (.long x19), .second, .val (.ref b208), .val (.long (w15.toInt64)), .second, .val (.long (w16.toInt64)), .second, .val (.long (w17.toInt64)), .second, .val (.long (w18.toInt64)), .second, .val (.long (f16_0 (x7.toInt64) (x8.toInt64))), .second, .val (.long y20), .second, .val (.long (f16_0 x11 y20)), .second, .unset] [])
  refine own_go (fun _ => XS.lload X21.here hx rfl (hb hby at_298) rfl) ?_
  show own_WP p e below _ T21 (mkF m 300 _ [(.long x19)])
  refine own_go (fun _ => XS.lload X21.here hx rfl (hb hby at_300) rfl) ?_
  show own_WP p e below _ T21 (mkF m 302 _ [(.long (f16_0 x11 y20)), (.long x19)])
  refine own_go (fun _ => XT.lcmp X21.here hx rfl (hb hby at_302) rfl) ?_
  show own_WP p e below _ T21 (mkF m 303 _ [(.int (XT.cmpL x19 (f16_0 x11 y20)))])
  by_cases h303 : x19 = (f16_0 x11 y20)
  · replace hv := (if_pos h303).symm.trans hv
    refine own_go (fun _ => XS.ifNo X21.here hx rfl (hb hby at_303) rfl (XT.ll_ne_f h303)) ?_
    show own_WP p e below _ T21 (mkF m 306 #[.val (.int x0), .val (.int x1), .val (.int x2), .val (.int x3), .val (.long x4), .second, .val (.int x6), .val (.int x7), .val (.int x8), .val (.int x9), .val (.int x10), .val (.long x11), .second, .val (.int x13), .val (.int x14), s15, s16, s17, s18, .val (.long x19), .second, .val (.ref b208), .val (.long (w15.toInt64)), .second, .val (.long (w16.toInt64)), .second, .val (.long (w17.toInt64)), .second, .val (.long (w18.toInt64)), .second, .val (.long (f16_0 (x7.toInt64) (x8.toInt64))), .second, .val (.long y20), .second, .val (.long (f16_0 x11 y20)), .second, .unset] [])
    refine own_go (fun _ => XS.lload X21.here hx rfl (hb hby at_306) rfl) ?_
    show own_WP p e below _ T21 (mkF m 308 _ [(.long (w18.toInt64))])
    refine own_go (fun _ => XS.lconst X21.here hx rfl (hb hby at_308)) ?_
    show own_WP p e below _ T21 (mkF m 309 _ [(.long (0 : Int64)), (.long (w18.toInt64))])
    refine own_go (fun _ => XT.lcmp X21.here hx rfl (hb hby at_309) rfl) ?_
    show own_WP p e below _ T21 (mkF m 310 _ [(.int (XT.cmpL (w18.toInt64) (0 : Int64)))])
    by_cases h310 : (w18.toInt64) = (0 : Int64)
    · replace hv := (if_pos h310).symm.trans hv
      refine own_go (fun _ => XS.ifNo X21.here hx rfl (hb hby at_310) rfl (XT.ll_ne_f h310)) ?_
      show own_WP p e below _ T21 (mkF m 313 #[.val (.int x0), .val (.int x1), .val (.int x2), .val (.int x3), .val (.long x4), .second, .val (.int x6), .val (.int x7), .val (.int x8), .val (.int x9), .val (.int x10), .val (.long x11), .second, .val (.int x13), .val (.int x14), s15, s16, s17, s18, .val (.long x19), .second, .val (.ref b208), .val (.long (w15.toInt64)), .second, .val (.long (w16.toInt64)), .second, .val (.long (w17.toInt64)), .second, .val (.long (w18.toInt64)), .second, .val (.long (f16_0 (x7.toInt64) (x8.toInt64))), .second, .val (.long y20), .second, .val (.long (f16_0 x11 y20)), .second, .unset] [])
      refine own_go (fun _ => XS.lconst X21.here hx rfl (hb hby at_313)) ?_
      show own_WP p e below _ T21 (mkF m 314 _ [(.long (0 : Int64))])
      refine own_go (fun _ => XS.lload X21.here hx rfl (hb hby at_314) rfl) ?_
      show own_WP p e below _ T21 (mkF m 316 _ [(.long (w15.toInt64)), (.long (0 : Int64))])
      refine own_go (fun _ => XT.lcmp X21.here hx rfl (hb hby at_316) rfl) ?_
      show own_WP p e below _ T21 (mkF m 317 _ [(.int (XT.cmpL (0 : Int64) (w15.toInt64)))])
      by_cases h317 : (w15.toInt64) < (0 : Int64)
      · replace hv := (if_pos h317).symm.trans hv
        refine own_go (fun _ => XS.ifYes X21.here hx rfl (pc0 := 317) (pc' := 387) rfl (hb hby at_317) rfl (XT.ll_gt_t h317) (by decide) (by decide)) ?_
        exact b0_387 hw C Z0 rr hP X21 e21 N K x0 x1 x2 x3 x4 x6 x7 x8 x9 x10 x11 x13 x14 s15 hs15 s16 hs16 s17 hs17 s18 hs18 x19 (.val (.ref b208)) (One.val rfl) (w15.toInt64) (w16.toInt64) (w17.toInt64) (w18.toInt64) (f16_0 (x7.toInt64) (x8.toInt64)) y20 (f16_0 x11 y20) hv
      · replace hv := (if_neg h317).symm.trans hv
        refine own_go (fun _ => XS.ifNo X21.here hx rfl (hb hby at_317) rfl (XT.ll_gt_f h317)) ?_
        show own_WP p e below _ T21 (mkF m 320 #[.val (.int x0), .val (.int x1), .val (.int x2), .val (.int x3), .val (.long x4), .second, .val (.int x6), .val (.int x7), .val (.int x8), .val (.int x9), .val (.int x10), .val (.long x11), .second, .val (.int x13), .val (.int x14), s15, s16, s17, s18, .val (.long x19), .second, .val (.ref b208), .val (.long (w15.toInt64)), .second, .val (.long (w16.toInt64)), .second, .val (.long (w17.toInt64)), .second, .val (.long (w18.toInt64)), .second, .val (.long (f16_0 (x7.toInt64) (x8.toInt64))), .second, .val (.long y20), .second, .val (.long (f16_0 x11 y20)), .second, .unset] [])
        refine own_go (fun _ => XS.lload X21.here hx rfl (hb hby at_320) rfl) ?_
        show own_WP p e below _ T21 (mkF m 322 _ [(.long (w15.toInt64))])
        refine own_go (fun _ => XS.iload X21.here hx rfl (hb hby at_322) rfl) ?_
        show own_WP p e below _ T21 (mkF m 324 _ [(.int x7), (.long (w15.toInt64))])
        refine own_go (fun _ => XS.i2l X21.here hx rfl (hb hby at_324) rfl) ?_
        show own_WP p e below _ T21 (mkF m 325 _ [(.long (x7.toInt64)), (.long (w15.toInt64))])
        refine own_go (fun _ => XT.lcmp X21.here hx rfl (hb hby at_325) rfl) ?_
        show own_WP p e below _ T21 (mkF m 326 _ [(.int (XT.cmpL (w15.toInt64) (x7.toInt64)))])
        by_cases h326 : (x7.toInt64) < (w15.toInt64)
        · replace hv := (if_pos h326).symm.trans hv
          refine own_go (fun _ => XS.ifYes X21.here hx rfl (pc0 := 326) (pc' := 387) rfl (hb hby at_326) rfl (XT.ll_gt_t h326) (by decide) (by decide)) ?_
          exact b0_387 hw C Z0 rr hP X21 e21 N K x0 x1 x2 x3 x4 x6 x7 x8 x9 x10 x11 x13 x14 s15 hs15 s16 hs16 s17 hs17 s18 hs18 x19 (.val (.ref b208)) (One.val rfl) (w15.toInt64) (w16.toInt64) (w17.toInt64) (w18.toInt64) (f16_0 (x7.toInt64) (x8.toInt64)) y20 (f16_0 x11 y20) hv
        · replace hv := (if_neg h326).symm.trans hv
          refine own_go (fun _ => XS.ifNo X21.here hx rfl (hb hby at_326) rfl (XT.ll_gt_f h326)) ?_
          show own_WP p e below _ T21 (mkF m 329 #[.val (.int x0), .val (.int x1), .val (.int x2), .val (.int x3), .val (.long x4), .second, .val (.int x6), .val (.int x7), .val (.int x8), .val (.int x9), .val (.int x10), .val (.long x11), .second, .val (.int x13), .val (.int x14), s15, s16, s17, s18, .val (.long x19), .second, .val (.ref b208), .val (.long (w15.toInt64)), .second, .val (.long (w16.toInt64)), .second, .val (.long (w17.toInt64)), .second, .val (.long (w18.toInt64)), .second, .val (.long (f16_0 (x7.toInt64) (x8.toInt64))), .second, .val (.long y20), .second, .val (.long (f16_0 x11 y20)), .second, .unset] [])
          refine own_go (fun _ => XS.lconst X21.here hx rfl (hb hby at_329)) ?_
          show own_WP p e below _ T21 (mkF m 330 _ [(.long (0 : Int64))])
          refine own_go (fun _ => XS.lload X21.here hx rfl (hb hby at_330) rfl) ?_
          show own_WP p e below _ T21 (mkF m 332 _ [(.long (w16.toInt64)), (.long (0 : Int64))])
          refine own_go (fun _ => XT.lcmp X21.here hx rfl (hb hby at_332) rfl) ?_
          show own_WP p e below _ T21 (mkF m 333 _ [(.int (XT.cmpL (0 : Int64) (w16.toInt64)))])
          by_cases h333 : (w16.toInt64) < (0 : Int64)
          · replace hv := (if_pos h333).symm.trans hv
            refine own_go (fun _ => XS.ifYes X21.here hx rfl (pc0 := 333) (pc' := 387) rfl (hb hby at_333) rfl (XT.ll_gt_t h333) (by decide) (by decide)) ?_
            exact b0_387 hw C Z0 rr hP X21 e21 N K x0 x1 x2 x3 x4 x6 x7 x8 x9 x10 x11 x13 x14 s15 hs15 s16 hs16 s17 hs17 s18 hs18 x19 (.val (.ref b208)) (One.val rfl) (w15.toInt64) (w16.toInt64) (w17.toInt64) (w18.toInt64) (f16_0 (x7.toInt64) (x8.toInt64)) y20 (f16_0 x11 y20) hv
          · replace hv := (if_neg h333).symm.trans hv
            refine own_go (fun _ => XS.ifNo X21.here hx rfl (hb hby at_333) rfl (XT.ll_gt_f h333)) ?_
            show own_WP p e below _ T21 (mkF m 336 #[.val (.int x0), .val (.int x1), .val (.int x2), .val (.int x3), .val (.long x4), .second, .val (.int x6), .val (.int x7), .val (.int x8), .val (.int x9), .val (.int x10), .val (.long x11), .second, .val (.int x13), .val (.int x14), s15, s16, s17, s18, .val (.long x19), .second, .val (.ref b208), .val (.long (w15.toInt64)), .second, .val (.long (w16.toInt64)), .second, .val (.long (w17.toInt64)), .second, .val (.long (w18.toInt64)), .second, .val (.long (f16_0 (x7.toInt64) (x8.toInt64))), .second, .val (.long y20), .second, .val (.long (f16_0 x11 y20)), .second, .unset] [])
            refine own_go (fun _ => XS.lload X21.here hx rfl (hb hby at_336) rfl) ?_
            show own_WP p e below _ T21 (mkF m 338 _ [(.long (w16.toInt64))])
            refine own_go (fun _ => XS.iload X21.here hx rfl (hb hby at_338) rfl) ?_
            show own_WP p e below _ T21 (mkF m 340 _ [(.int x8), (.long (w16.toInt64))])
            refine own_go (fun _ => XS.i2l X21.here hx rfl (hb hby at_340) rfl) ?_
            show own_WP p e below _ T21 (mkF m 341 _ [(.long (x8.toInt64)), (.long (w16.toInt64))])
            refine own_go (fun _ => XT.lcmp X21.here hx rfl (hb hby at_341) rfl) ?_
            show own_WP p e below _ T21 (mkF m 342 _ [(.int (XT.cmpL (w16.toInt64) (x8.toInt64)))])
            by_cases h342 : (x8.toInt64) < (w16.toInt64)
            · replace hv := (if_pos h342).symm.trans hv
              refine own_go (fun _ => XS.ifYes X21.here hx rfl (pc0 := 342) (pc' := 387) rfl (hb hby at_342) rfl (XT.ll_gt_t h342) (by decide) (by decide)) ?_
              exact b0_387 hw C Z0 rr hP X21 e21 N K x0 x1 x2 x3 x4 x6 x7 x8 x9 x10 x11 x13 x14 s15 hs15 s16 hs16 s17 hs17 s18 hs18 x19 (.val (.ref b208)) (One.val rfl) (w15.toInt64) (w16.toInt64) (w17.toInt64) (w18.toInt64) (f16_0 (x7.toInt64) (x8.toInt64)) y20 (f16_0 x11 y20) hv
            · replace hv := (if_neg h342).symm.trans hv
              refine own_go (fun _ => XS.ifNo X21.here hx rfl (hb hby at_342) rfl (XT.ll_gt_f h342)) ?_
              show own_WP p e below _ T21 (mkF m 345 #[.val (.int x0), .val (.int x1), .val (.int x2), .val (.int x3), .val (.long x4), .second, .val (.int x6), .val (.int x7), .val (.int x8), .val (.int x9), .val (.int x10), .val (.long x11), .second, .val (.int x13), .val (.int x14), s15, s16, s17, s18, .val (.long x19), .second, .val (.ref b208), .val (.long (w15.toInt64)), .second, .val (.long (w16.toInt64)), .second, .val (.long (w17.toInt64)), .second, .val (.long (w18.toInt64)), .second, .val (.long (f16_0 (x7.toInt64) (x8.toInt64))), .second, .val (.long y20), .second, .val (.long (f16_0 x11 y20)), .second, .unset] [])
              refine own_go (fun _ => XS.lconst X21.here hx rfl (hb hby at_345)) ?_
              show own_WP p e below _ T21 (mkF m 346 _ [(.long (0 : Int64))])
              refine own_go (fun _ => XS.lload X21.here hx rfl (hb hby at_346) rfl) ?_
              show own_WP p e below _ T21 (mkF m 348 _ [(.long (w17.toInt64)), (.long (0 : Int64))])
              refine own_go (fun _ => XT.lcmp X21.here hx rfl (hb hby at_348) rfl) ?_
              show own_WP p e below _ T21 (mkF m 349 _ [(.int (XT.cmpL (0 : Int64) (w17.toInt64)))])
              by_cases h349 : (w17.toInt64) < (0 : Int64)
              · replace hv := (if_pos h349).symm.trans hv
                refine own_go (fun _ => XS.ifYes X21.here hx rfl (pc0 := 349) (pc' := 387) rfl (hb hby at_349) rfl (XT.ll_gt_t h349) (by decide) (by decide)) ?_
                exact b0_387 hw C Z0 rr hP X21 e21 N K x0 x1 x2 x3 x4 x6 x7 x8 x9 x10 x11 x13 x14 s15 hs15 s16 hs16 s17 hs17 s18 hs18 x19 (.val (.ref b208)) (One.val rfl) (w15.toInt64) (w16.toInt64) (w17.toInt64) (w18.toInt64) (f16_0 (x7.toInt64) (x8.toInt64)) y20 (f16_0 x11 y20) hv
              · replace hv := (if_neg h349).symm.trans hv
                refine own_go (fun _ => XS.ifNo X21.here hx rfl (hb hby at_349) rfl (XT.ll_gt_f h349)) ?_
                show own_WP p e below _ T21 (mkF m 352 #[.val (.int x0), .val (.int x1), .val (.int x2), .val (.int x3), .val (.long x4), .second, .val (.int x6), .val (.int x7), .val (.int x8), .val (.int x9), .val (.int x10), .val (.long x11), .second, .val (.int x13), .val (.int x14), s15, s16, s17, s18, .val (.long x19), .second, .val (.ref b208), .val (.long (w15.toInt64)), .second, .val (.long (w16.toInt64)), .second, .val (.long (w17.toInt64)), .second, .val (.long (w18.toInt64)), .second, .val (.long (f16_0 (x7.toInt64) (x8.toInt64))), .second, .val (.long y20), .second, .val (.long (f16_0 x11 y20)), .second, .unset] [])
                refine own_go (fun _ => XS.lload X21.here hx rfl (hb hby at_352) rfl) ?_
                show own_WP p e below _ T21 (mkF m 354 _ [(.long (w17.toInt64))])
                refine own_go (fun _ => XS.iload X21.here hx rfl (hb hby at_354) rfl) ?_
                show own_WP p e below _ T21 (mkF m 356 _ [(.int x9), (.long (w17.toInt64))])
                refine own_go (fun _ => XS.i2l X21.here hx rfl (hb hby at_356) rfl) ?_
                show own_WP p e below _ T21 (mkF m 357 _ [(.long (x9.toInt64)), (.long (w17.toInt64))])
                refine own_go (fun _ => XT.lcmp X21.here hx rfl (hb hby at_357) rfl) ?_
                show own_WP p e below _ T21 (mkF m 358 _ [(.int (XT.cmpL (w17.toInt64) (x9.toInt64)))])
                by_cases h358 : (x9.toInt64) < (w17.toInt64)
                · replace hv := (if_pos h358).symm.trans hv
                  refine own_go (fun _ => XS.ifYes X21.here hx rfl (pc0 := 358) (pc' := 387) rfl (hb hby at_358) rfl (XT.ll_gt_t h358) (by decide) (by decide)) ?_
                  exact b0_387 hw C Z0 rr hP X21 e21 N K x0 x1 x2 x3 x4 x6 x7 x8 x9 x10 x11 x13 x14 s15 hs15 s16 hs16 s17 hs17 s18 hs18 x19 (.val (.ref b208)) (One.val rfl) (w15.toInt64) (w16.toInt64) (w17.toInt64) (w18.toInt64) (f16_0 (x7.toInt64) (x8.toInt64)) y20 (f16_0 x11 y20) hv
                · replace hv := (if_neg h358).symm.trans hv
                  refine own_go (fun _ => XS.ifNo X21.here hx rfl (hb hby at_358) rfl (XT.ll_gt_f h358)) ?_
                  show own_WP p e below _ T21 (mkF m 361 #[.val (.int x0), .val (.int x1), .val (.int x2), .val (.int x3), .val (.long x4), .second, .val (.int x6), .val (.int x7), .val (.int x8), .val (.int x9), .val (.int x10), .val (.long x11), .second, .val (.int x13), .val (.int x14), s15, s16, s17, s18, .val (.long x19), .second, .val (.ref b208), .val (.long (w15.toInt64)), .second, .val (.long (w16.toInt64)), .second, .val (.long (w17.toInt64)), .second, .val (.long (w18.toInt64)), .second, .val (.long (f16_0 (x7.toInt64) (x8.toInt64))), .second, .val (.long y20), .second, .val (.long (f16_0 x11 y20)), .second, .unset] [])
                  refine own_go (fun _ => XS.lload X21.here hx rfl (hb hby at_361) rfl) ?_
                  show own_WP p e below _ T21 (mkF m 363 _ [(.long (w15.toInt64))])
                  refine own_go (fun _ => XS.lload X21.here hx rfl (hb hby at_363) rfl) ?_
                  show own_WP p e below _ T21 (mkF m 365 _ [(.long (w18.toInt64)), (.long (w15.toInt64))])
                  refine own_go (fun _ => XS.ladd X21.here hx rfl (hb hby at_365) rfl) ?_
                  show own_WP p e below _ T21 (mkF m 366 _ [(.long ((w15.toInt64) + (w18.toInt64)))])
                  refine own_go (fun _ => XS.lload X21.here hx rfl (hb hby at_366) rfl) ?_
                  show own_WP p e below _ T21 (mkF m 368 _ [(.long (w16.toInt64)), (.long ((w15.toInt64) + (w18.toInt64)))])
                  refine own_go (fun _ => XT.lcmp X21.here hx rfl (hb hby at_368) rfl) ?_
                  show own_WP p e below _ T21 (mkF m 369 _ [(.int (XT.cmpL ((w15.toInt64) + (w18.toInt64)) (w16.toInt64)))])
                  by_cases h369 : ((w15.toInt64) + (w18.toInt64)) = (w16.toInt64)
                  · replace hv := (if_pos h369).symm.trans hv
                    refine own_go (fun _ => XS.ifNo X21.here hx rfl (hb hby at_369) rfl (XT.ll_ne_f h369)) ?_
                    show own_WP p e below _ T21 (mkF m 372 #[.val (.int x0), .val (.int x1), .val (.int x2), .val (.int x3), .val (.long x4), .second, .val (.int x6), .val (.int x7), .val (.int x8), .val (.int x9), .val (.int x10), .val (.long x11), .second, .val (.int x13), .val (.int x14), s15, s16, s17, s18, .val (.long x19), .second, .val (.ref b208), .val (.long (w15.toInt64)), .second, .val (.long (w16.toInt64)), .second, .val (.long (w17.toInt64)), .second, .val (.long (w18.toInt64)), .second, .val (.long (f16_0 (x7.toInt64) (x8.toInt64))), .second, .val (.long y20), .second, .val (.long (f16_0 x11 y20)), .second, .unset] [])
                    refine own_go (fun _ => XS.lload X21.here hx rfl (hb hby at_372) rfl) ?_
                    show own_WP p e below _ T21 (mkF m 374 _ [(.long (w15.toInt64))])
                    refine own_go (fun _ => XS.lload X21.here hx rfl (hb hby at_374) rfl) ?_
                    show own_WP p e below _ T21 (mkF m 376 _ [(.long (w17.toInt64)), (.long (w15.toInt64))])
                    refine own_go (fun _ => XS.ladd X21.here hx rfl (hb hby at_376) rfl) ?_
                    show own_WP p e below _ T21 (mkF m 377 _ [(.long ((w15.toInt64) + (w17.toInt64)))])
                    refine own_go (fun _ => XS.lload X21.here hx rfl (hb hby at_377) rfl) ?_
                    show own_WP p e below _ T21 (mkF m 379 _ [(.long (f16_0 x11 y20)), (.long ((w15.toInt64) + (w17.toInt64)))])
                    refine own_go (fun _ => XT.lcmp X21.here hx rfl (hb hby at_379) rfl) ?_
                    show own_WP p e below _ T21 (mkF m 380 _ [(.int (XT.cmpL ((w15.toInt64) + (w17.toInt64)) (f16_0 x11 y20)))])
                    by_cases h380 : ((w15.toInt64) + (w17.toInt64)) = (f16_0 x11 y20)
                    · replace hv := (if_pos h380).symm.trans hv
                      refine own_go (fun _ => XS.ifNo X21.here hx rfl (hb hby at_380) rfl (XT.ll_ne_f h380)) ?_
                      show own_WP p e below _ T21 (mkF m 383 #[.val (.int x0), .val (.int x1), .val (.int x2), .val (.int x3), .val (.long x4), .second, .val (.int x6), .val (.int x7), .val (.int x8), .val (.int x9), .val (.int x10), .val (.long x11), .second, .val (.int x13), .val (.int x14), s15, s16, s17, s18, .val (.long x19), .second, .val (.ref b208), .val (.long (w15.toInt64)), .second, .val (.long (w16.toInt64)), .second, .val (.long (w17.toInt64)), .second, .val (.long (w18.toInt64)), .second, .val (.long (f16_0 (x7.toInt64) (x8.toInt64))), .second, .val (.long y20), .second, .val (.long (f16_0 x11 y20)), .second, .unset] [])
                      refine own_go (fun _ => XS.iconst X21.here hx rfl (hb hby at_383)) ?_
                      show own_WP p e below _ T21 (mkF m 384 _ [(.int (1 : Int32))])
                      refine own_go (fun _ => XS.goto X21.here hx rfl (pc0 := 384) (pc' := 388) rfl (hb hby at_384) (by decide) (by decide)) ?_
                      exact b0_388 hw C Z0 rr hP X21 e21 N K x0 x1 x2 x3 x4 x6 x7 x8 x9 x10 x11 x13 x14 s15 hs15 s16 hs16 s17 hs17 s18 hs18 x19 (.val (.ref b208)) (One.val rfl) (w15.toInt64) (w16.toInt64) (w17.toInt64) (w18.toInt64) (f16_0 (x7.toInt64) (x8.toInt64)) y20 (f16_0 x11 y20) (1 : Int32) hv
                    · replace hv := (if_neg h380).symm.trans hv
                      refine own_go (fun _ => XS.ifYes X21.here hx rfl (pc0 := 380) (pc' := 387) rfl (hb hby at_380) rfl (XT.ll_ne_t h380) (by decide) (by decide)) ?_
                      exact b0_387 hw C Z0 rr hP X21 e21 N K x0 x1 x2 x3 x4 x6 x7 x8 x9 x10 x11 x13 x14 s15 hs15 s16 hs16 s17 hs17 s18 hs18 x19 (.val (.ref b208)) (One.val rfl) (w15.toInt64) (w16.toInt64) (w17.toInt64) (w18.toInt64) (f16_0 (x7.toInt64) (x8.toInt64)) y20 (f16_0 x11 y20) hv
                  · replace hv := (if_neg h369).symm.trans hv
                    refine own_go (fun _ => XS.ifYes X21.here hx rfl (pc0 := 369) (pc' := 387) rfl (hb hby at_369) rfl (XT.ll_ne_t h369) (by decide) (by decide)) ?_
                    exact b0_387 hw C Z0 rr hP X21 e21 N K x0 x1 x2 x3 x4 x6 x7 x8 x9 x10 x11 x13 x14 s15 hs15 s16 hs16 s17 hs17 s18 hs18 x19 (.val (.ref b208)) (One.val rfl) (w15.toInt64) (w16.toInt64) (w17.toInt64) (w18.toInt64) (f16_0 (x7.toInt64) (x8.toInt64)) y20 (f16_0 x11 y20) hv
    · replace hv := (if_neg h310).symm.trans hv
      refine own_go (fun _ => XS.ifYes X21.here hx rfl (pc0 := 310) (pc' := 387) rfl (hb hby at_310) rfl (XT.ll_ne_t h310) (by decide) (by decide)) ?_
      exact b0_387 hw C Z0 rr hP X21 e21 N K x0 x1 x2 x3 x4 x6 x7 x8 x9 x10 x11 x13 x14 s15 hs15 s16 hs16 s17 hs17 s18 hs18 x19 (.val (.ref b208)) (One.val rfl) (w15.toInt64) (w16.toInt64) (w17.toInt64) (w18.toInt64) (f16_0 (x7.toInt64) (x8.toInt64)) y20 (f16_0 x11 y20) hv
  · replace hv := (if_neg h303).symm.trans hv
    refine own_go (fun _ => XS.ifYes X21.here hx rfl (pc0 := 303) (pc' := 387) rfl (hb hby at_303) rfl (XT.ll_ne_t h303) (by decide) (by decide)) ?_
    exact b0_387 hw C Z0 rr hP X21 e21 N K x0 x1 x2 x3 x4 x6 x7 x8 x9 x10 x11 x13 x14 s15 hs15 s16 hs16 s17 hs17 s18 hs18 x19 (.val (.ref b208)) (One.val rfl) (w15.toInt64) (w16.toInt64) (w17.toInt64) (w18.toInt64) (f16_0 (x7.toInt64) (x8.toInt64)) y20 (f16_0 x11 y20) hv
def f0_206 (v_b180_b35 : List Int32) (v_b180_b51 : List Int32) (v_b180_b59 : List Int32) (x7 : Int32) (x8 : Int32) (x9 : Int32) (x11 : Int64) (x13 : Int32) (x19 : Int64) : Option (Int32) := ((f18_0 v_b180_b35 v_b180_b51 v_b180_b59).bind fun rr14 => (if (Int32.ofNat rr14.length) = (4 : Int32) then (f0_222 rr14 x7 x8 x9 x11 x13 x19) else (some (0 : Int32))))
set_option maxRecDepth 65536 in
set_option maxHeartbeats 40000000 in
theorem b0_206 {p : Program} {l : Launch} {e : Env} {s : State} {m : MethodId} {args : Array Value} {below : List Frame} {meth : Method} {c : Code} {Z : State} {a0 : Array Value} {h0 : Heap} {n0 : Nat} {P : Option Value → Heap → List Loc → Prop} (hw : ∀ d ∈ tables_1, d.before a0 Z = true) (C : own_Ctx p s m meth c Z x code maxLocals ret) (Z0 : n0 ≤ h0.size)   (rr : Int32) (hP : ∀ v h L, Fr n0 L → Keep h0 h [] → E0 Z h0  rr v h → P v h L)
    {T : State} {locs : List Loc} {h : Heap} {b165 : Nat} {b180_b35 : Nat} {b180_b51 : Nat} {b180_b59 : Nat} {v_b180_b35 : List Int32} {v_b180_b51 : List Int32} {v_b180_b59 : List Int32} (X : Stand p l e room_1 s m args below meth c T locs 31 156) (e0 : T.heap = h) (N : Fr n0 locs) (K : Keep h0 h []) (o_b165_b180_b35 : b165 < b180_b35) (o_b180_b35_b180_b51 : b180_b35 < b180_b51) (o_b180_b51_b180_b59 : b180_b51 < b180_b59) (g_b165 : n0 ≤ b165) (z_b165 : h0.size ≤ b165) (E_b165 : Exa Z h b165 "com/example/gridfare/gridfare/engine/ResidualNetwork") (Fb165_b : Fld Z h b165 "com/example/gridfare/gridfare/engine/ResidualNetwork" "added" "[I" (.ref b180_b35)) (Fb165_d : Fld Z h b165 "com/example/gridfare/gridfare/engine/ResidualNetwork" "twin" "[I" (.ref b180_b51)) (Fb165_e : Fld Z h b165 "com/example/gridfare/gridfare/engine/ResidualNetwork" "residual" "[I" (.ref b180_b59)) (V_b180_b35 : own_AI Z h b180_b35 .int v_b180_b35) (V_b180_b51 : own_AI Z h b180_b51 .int v_b180_b51) (V_b180_b59 : own_AI Z h b180_b59 .int v_b180_b59) (x0 : Int32) (x1 : Int32) (x2 : Int32) (x3 : Int32) (x4 : Int64) (x6 : Int32) (x7 : Int32) (x8 : Int32) (x9 : Int32) (x10 : Int32) (x11 : Int64) (x13 : Int32) (x14 : Int32) (s15 : Slot) (hs15 : One s15) (s16 : Slot) (hs16 : One s16) (s17 : Slot) (hs17 : One s17) (x19 : Int64) (hv : f0_206 v_b180_b35 v_b180_b51 v_b180_b59 x7 x8 x9 x11 x13 x19 = some rr) :
    own_WP p e below (own_Q s P room_1.cells room_1.slots) T (mkF m 206 #[.val (.int x0), .val (.int x1), .val (.int x2), .val (.int x3), .val (.long x4), .second, .val (.int x6), .val (.int x7), .val (.int x8), .val (.int x9), .val (.int x10), .val (.long x11), .second, .val (.int x13), .val (.int x14), s15, s16, s17, .val (.ref b165), .val (.long x19), .second, .unset, .unset, .unset, .unset, .unset, .unset, .unset, .unset, .unset, .unset, .unset, .unset, .unset, .unset, .unset, .unset] []) := by
  obtain ⟨hx, hZ, hby, hml, hown, hnm, hret, hlk⟩ := id C
  replace hown : s.vm.findClass "com/example/gridfare/gridfare/engine/ResidualNetworkFlowsPinLaw" = some m.cls := hown
  unfold f0_206 at hv
  show own_WP p e below _ T (mkF m 206 #[.val (.int x0), .val (.int x1), .val (.int x2), .val (.int x3), .val (.long x4), .second, .val (.int x6), .val (.int x7), .val (.int x8), .val (.int x9), .val (.int x10), .val (.long x11), .second, .val (.int x13), .val (.int x14), s15, s16, s17, .val (.ref b165), .val (.long x19), .second, .unset, .unset, .unset, .unset, .unset, .unset, .unset, .unset, .unset, .unset, .unset, .unset, .unset, .unset, .unset, .unset] [])
  refine own_go (fun _ => XS.aload X.here hx rfl (hb hby at_206) rfl rfl) ?_
  show own_WP p e below _ T (mkF m 208 #[.val (.int x0), .val (.int x1), .val (.int x2), .val (.int x3), .val (.long x4), .second, .val (.int x6), .val (.int x7), .val (.int x8), .val (.int x9), .val (.int x10), .val (.long x11), .second, .val (.int x13), .val (.int x14), s15, s16, s17, .val (.ref b165), .val (.long x19), .second, .unset, .unset, .unset, .unset, .unset, .unset, .unset, .unset, .unset, .unset, .unset, .unset, .unset, .unset, .unset, .unset] [(.ref b165)])
  obtain ⟨rr14, hf14, hv⟩ := own_bind hv
  obtain ⟨T14, v14, L14, X14, ⟨N14, K14, Q14⟩, st14⟩ := own_callV X C (a := b165) (argsL := []) (rm18 l Z a0 hw n0 h (by have q := K.1; omega) (by omega) (by omega) (by omega) (by omega) E_b165 Fb165_b Fb165_d Fb165_e V_b180_b35 V_b180_b51 V_b180_b59 rr14 hf14) (hw _ (List.mem_of_getElem? (i := 140) rfl)) (hw _ (List.mem_of_getElem? (i := 141) rfl)) (hw _ (List.mem_of_getElem? (i := 143) rfl)) (hw _ (List.mem_of_getElem? (i := 142) rfl)) (hw _ (List.mem_of_getElem? (i := 12) rfl)) (hw _ (List.mem_of_getElem? (i := 144) rfl)) (by decide) e0 E_b165 (W := 0) (pc := 208) (Ls := #[.val (.int x0), .val (.int x1), .val (.int x2), .val (.int x3), .val (.long x4), .second, .val (.int x6), .val (.int x7), .val (.int x8), .val (.int x9), .val (.int x10), .val (.long x11), .second, .val (.int x13), .val (.int x14), s15, s16, s17, .val (.ref b165), .val (.long x19), .second, .unset, .unset, .unset, .unset, .unset, .unset, .unset, .unset, .unset, .unset, .unset, .unset, .unset, .unset, .unset, .unset]) rfl (lenOf pd18 rfl) (rest := []) (stk := [(.ref b165)]) rfl (Nat.le_of_ble_eq_true rfl) (hb hby at_208) (by decide) (by decide) (by decide) (by decide)
  replace N := Fr.app N N14
  have lt14 : b180_b59 < h.size := V_b180_b59.lt
  replace E_b165 := E_b165.keep K14
  have nq : b165 ∉ ([] : List Addr) := nin0
  replace Fb165_b := Fb165_b.keep K14 nq
  replace Fb165_d := Fb165_d.keep K14 nq
  replace Fb165_e := Fb165_e.keep K14 nq
  clear nq
  replace V_b180_b35 := V_b180_b35.keep K14 nin0
  replace V_b180_b51 := V_b180_b51.keep K14 nin0
  replace V_b180_b59 := V_b180_b59.keep K14 nin0
  obtain ⟨b208, zz14, rfl, V_b208⟩ := Q14
  have o_b180_b59_b208 : b180_b59 < b208 := by omega
  replace K := K.trans K14 all0
  refine own_go st14 ?_
  clear st14 N14 K14 hf14 X e0
  show own_WP p e below _ T14 (mkF m 211 #[.val (.int x0), .val (.int x1), .val (.int x2), .val (.int x3), .val (.long x4), .second, .val (.int x6), .val (.int x7), .val (.int x8), .val (.int x9), .val (.int x10), .val (.long x11), .second, .val (.int x13), .val (.int x14), s15, s16, s17, .val (.ref b165), .val (.long x19), .second, .unset, .unset, .unset, .unset, .unset, .unset, .unset, .unset, .unset, .unset, .unset, .unset, .unset, .unset, .unset, .unset] [(.ref b208)])
  refine own_go (fun _ => XS.astore X14.here hx rfl (hb hby at_211) rfl rfl rfl) ?_
  clear Fb165_b
  clear Fb165_d
  clear Fb165_e
  have o_b165_b180_b51 : b165 < b180_b51 := by omega
  clear V_b180_b35
  have o_b165_b180_b59 : b165 < b180_b59 := by omega
  clear V_b180_b51
  have o_b165_b208 : b165 < b208 := by omega
  clear V_b180_b59
  have g_b208 : n0 ≤ b208 := by omega
  have z_b208 : h0.size ≤ b208 := by omega
  clear E_b165
  show own_WP p e below _ T14 (mkF m 213 #[.val (.int x0), .val (.int x1), .val (.int x2), .val (.int x3), .val (.long x4), .second, .val (.int x6), .val (.int x7), .val (.int x8), .val (.int x9), .val (.int x10), .val (.long x11), .second, .val (.int x13), .val (.int x14), s15, s16, s17, .val (.ref b165), .val (.long x19), .second, .val (.ref b208), .unset, .unset, .unset, .unset, .unset, .unset, .unset, .unset, .unset, .unset, .unset, .unset, .unset, .unset, .unset] [])
  refine own_go (fun _ => XS.aload X14.here hx rfl (hb hby at_213) rfl rfl) ?_
  show own_WP p e below _ T14 (mkF m 215 _ [(.ref b208)])
  refine own_go (own_lenI X14 C (rfl : T14.heap = T14.heap) V_b208 (hb hby at_215)) ?_
  show own_WP p e below _ T14 (mkF m 216 _ [(.int (Int32.ofNat rr14.length))])
  refine own_go (fun _ => XS.iconst X14.here hx rfl (hb hby at_216)) ?_
  show own_WP p e below _ T14 (mkF m 217 _ [(.int (4 : Int32)), (.int (Int32.ofNat rr14.length))])
  by_cases h217 : (Int32.ofNat rr14.length) = (4 : Int32)
  · replace hv := (if_pos h217).symm.trans hv
    refine own_go (fun _ => XS.icmpYes X14.here hx rfl (pc0 := 217) (pc' := 222) rfl (hb hby at_217) rfl (XT.ii_eq_t h217) (by decide) (by decide)) ?_
    exact b0_222 hw C Z0 rr hP X14 (rfl : T14.heap = T14.heap) N K g_b208 z_b208 V_b208 x0 x1 x2 x3 x4 x6 x7 x8 x9 x10 x11 x13 x14 s15 hs15 s16 hs16 s17 hs17 (.val (.ref b165)) (One.val rfl) x19 hv
  · replace hv := (if_neg h217).symm.trans hv
    refine own_go (fun _ => XS.icmpNo X14.here hx rfl (hb hby at_217) rfl (XT.ii_eq_f h217)) ?_
    show own_WP p e below _ T14 (mkF m 220 #[.val (.int x0), .val (.int x1), .val (.int x2), .val (.int x3), .val (.long x4), .second, .val (.int x6), .val (.int x7), .val (.int x8), .val (.int x9), .val (.int x10), .val (.long x11), .second, .val (.int x13), .val (.int x14), s15, s16, s17, .val (.ref b165), .val (.long x19), .second, .val (.ref b208), .unset, .unset, .unset, .unset, .unset, .unset, .unset, .unset, .unset, .unset, .unset, .unset, .unset, .unset, .unset] [])
    refine own_go (fun _ => XS.iconst X14.here hx rfl (hb hby at_220)) ?_
    show own_WP p e below _ T14 (mkF m 221 #[.val (.int x0), .val (.int x1), .val (.int x2), .val (.int x3), .val (.long x4), .second, .val (.int x6), .val (.int x7), .val (.int x8), .val (.int x9), .val (.int x10), .val (.long x11), .second, .val (.int x13), .val (.int x14), s15, s16, s17, .val (.ref b165), .val (.long x19), .second, .val (.ref b208), .unset, .unset, .unset, .unset, .unset, .unset, .unset, .unset, .unset, .unset, .unset, .unset, .unset, .unset, .unset] [(.int (0 : Int32))])
    obtain rfl := Option.some.inj hv
    exact own_retN X14 C (by simp) (hb hby at_221) (hP _ _ _ N K rfl) (by decide) (by decide)
def f0_165 (v_b47 : List Int32) (v_b52 : List Int32) (v_b57 : List Int32) (x7 : Int32) (x8 : Int32) (x9 : Int32) (x11 : Int64) (x13 : Int32) (x14 : Int32) : Option (Int32) := ((f3_0 v_b47 v_b52 v_b57 (0 : Int64) [0, 0, 0, 0] (3 : Int32) (4 : Int32)).bind fun rr10 => ((f12_0 (rr10.1) (rr10.2.1) (rr10.2.2.2.1) (rr10.2.2.2.2.1) (rr10.2.2.2.2.2.1) (rr10.2.2.2.2.2.2.1) (rr10.2.2.2.2.2.2.2.1) (rr10.2.2.2.2.2.2.2.2.1) (rr10.2.2.2.2.2.2.2.2.2) (f2_0 (0 : Int32) x14) (f2_0 (2 : Int32) x14) x11).bind fun rr13 => (f0_206 (rr10.2.2.1) (rr10.2.2.2.2.1) (rr13.2.1) x7 x8 x9 x11 x13 (rr13.1))))
set_option maxRecDepth 65536 in
set_option maxHeartbeats 40000000 in
theorem b0_165 {p : Program} {l : Launch} {e : Env} {s : State} {m : MethodId} {args : Array Value} {below : List Frame} {meth : Method} {c : Code} {Z : State} {a0 : Array Value} {h0 : Heap} {n0 : Nat} {P : Option Value → Heap → List Loc → Prop} (hw : ∀ d ∈ tables_1, d.before a0 Z = true) (C : own_Ctx p s m meth c Z x code maxLocals ret) (Z0 : n0 ≤ h0.size)   (rr : Int32) (hP : ∀ v h L, Fr n0 L → Keep h0 h [] → E0 Z h0  rr v h → P v h L)
    {T : State} {locs : List Loc} {h : Heap} {b47 : Nat} {b52 : Nat} {b57 : Nat} {v_b47 : List Int32} {v_b52 : List Int32} {v_b57 : List Int32} (X : Stand p l e room_1 s m args below meth c T locs 3 12) (e0 : T.heap = h) (N : Fr n0 locs) (K : Keep h0 h []) (o_b47_b52 : b47 < b52) (o_b52_b57 : b52 < b57) (g_b47 : n0 ≤ b47) (z_b47 : h0.size ≤ b47) (V_b47 : own_AI Z h b47 .int v_b47) (V_b52 : own_AI Z h b52 .int v_b52) (V_b57 : own_AI Z h b57 .int v_b57) (x0 : Int32) (x1 : Int32) (x2 : Int32) (x3 : Int32) (x4 : Int64) (x6 : Int32) (x7 : Int32) (x8 : Int32) (x9 : Int32) (x10 : Int32) (x11 : Int64) (x13 : Int32) (x14 : Int32) (hv : f0_165 v_b47 v_b52 v_b57 x7 x8 x9 x11 x13 x14 = some rr) :
    own_WP p e below (own_Q s P room_1.cells room_1.slots) T (mkF m 165 #[.val (.int x0), .val (.int x1), .val (.int x2), .val (.int x3), .val (.long x4), .second, .val (.int x6), .val (.int x7), .val (.int x8), .val (.int x9), .val (.int x10), .val (.long x11), .second, .val (.int x13), .val (.int x14), .val (.ref b47), .val (.ref b52), .val (.ref b57), .unset, .unset, .unset, .unset, .unset, .unset, .unset, .unset, .unset, .unset, .unset, .unset, .unset, .unset, .unset, .unset, .unset, .unset, .unset] []) := by
  obtain ⟨hx, hZ, hby, hml, hown, hnm, hret, hlk⟩ := id C
  replace hown : s.vm.findClass "com/example/gridfare/gridfare/engine/ResidualNetworkFlowsPinLaw" = some m.cls := hown
  unfold f0_165 at hv
  show own_WP p e below _ T (mkF m 165 #[.val (.int x0), .val (.int x1), .val (.int x2), .val (.int x3), .val (.long x4), .second, .val (.int x6), .val (.int x7), .val (.int x8), .val (.int x9), .val (.int x10), .val (.long x11), .second, .val (.int x13), .val (.int x14), .val (.ref b47), .val (.ref b52), .val (.ref b57), .unset, .unset, .unset, .unset, .unset, .unset, .unset, .unset, .unset, .unset, .unset, .unset, .unset, .unset, .unset, .unset, .unset, .unset, .unset] [])
  obtain ⟨T8, h8, X8, e8, E8, A8, D8, -, st8⟩ := newO X hx hZ hown (hw _ (List.mem_of_getElem? (i := 10) rfl)) (hw _ (List.mem_of_getElem? (i := 11) rfl)) (hw _ (List.mem_of_getElem? (i := 12) rfl)) e0 (g := (mkF m 165 #[.val (.int x0), .val (.int x1), .val (.int x2), .val (.int x3), .val (.long x4), .second, .val (.int x6), .val (.int x7), .val (.int x8), .val (.int x9), .val (.int x10), .val (.long x11), .second, .val (.int x13), .val (.int x14), .val (.ref b47), .val (.ref b52), .val (.ref b57), .unset, .unset, .unset, .unset, .unset, .unset, .unset, .unset, .unset, .unset, .unset, .unset, .unset, .unset, .unset, .unset, .unset, .unset, .unset] [])) rfl (hb hby at_165) (by decide) (by decide)
  obtain ⟨b165, hb_b165⟩ : ∃ z, z = h.size := ⟨_, rfl⟩
  rw [← hb_b165] at A8 D8 st8
  refine own_go st8 ?_
  have o_b57_b165 : b57 < b165 := by have q : b57 < h.size := V_b57.lt; omega
  replace V_b47 := V_b47.ext E8
  replace V_b52 := V_b52.ext E8
  replace V_b57 := V_b57.ext E8
  replace K := K.ext E8
  have E_b165 := A8
  have Fb165_8 : Fld Z h8 b165 "com/example/gridfare/gridfare/engine/ResidualNetwork" "nodes" "I" (.int (0 : Int32)) := D8 (Or.inr (hw _ (List.mem_of_getElem? (i := 21) rfl))) (ty := .int) (by decide)
  have Fb165_9 : Fld Z h8 b165 "com/example/gridfare/gridfare/engine/ResidualNetwork" "scale" "J" (.long (0 : Int64)) := D8 (Or.inr (hw _ (List.mem_of_getElem? (i := 23) rfl))) (ty := .long) (by decide)
  have Fb165_a : Fld Z h8 b165 "com/example/gridfare/gridfare/engine/ResidualNetwork" "firstArc" "[I" .null := D8 (Or.inr (hw _ (List.mem_of_getElem? (i := 29) rfl))) (ty := (.array .int)) (by decide)
  have Fb165_b : Fld Z h8 b165 "com/example/gridfare/gridfare/engine/ResidualNetwork" "added" "[I" .null := D8 (Or.inr (hw _ (List.mem_of_getElem? (i := 31) rfl))) (ty := (.array .int)) (by decide)
  have Fb165_c : Fld Z h8 b165 "com/example/gridfare/gridfare/engine/ResidualNetwork" "head" "[I" .null := D8 (Or.inr (hw _ (List.mem_of_getElem? (i := 33) rfl))) (ty := (.array .int)) (by decide)
  have Fb165_d : Fld Z h8 b165 "com/example/gridfare/gridfare/engine/ResidualNetwork" "twin" "[I" .null := D8 (Or.inr (hw _ (List.mem_of_getElem? (i := 35) rfl))) (ty := (.array .int)) (by decide)
  have Fb165_e : Fld Z h8 b165 "com/example/gridfare/gridfare/engine/ResidualNetwork" "residual" "[I" .null := D8 (Or.inr (hw _ (List.mem_of_getElem? (i := 37) rfl))) (ty := (.array .int)) (by decide)
  have Fb165_f : Fld Z h8 b165 "com/example/gridfare/gridfare/engine/ResidualNetwork" "cost" "[J" .null := D8 (Or.inr (hw _ (List.mem_of_getElem? (i := 39) rfl))) (ty := (.array .long)) (by decide)
  have Fb165_10 : Fld Z h8 b165 "com/example/gridfare/gridfare/engine/ResidualNetwork" "level" "[I" .null := D8 (Or.inr (hw _ (List.mem_of_getElem? (i := 52) rfl))) (ty := (.array .int)) (by decide)
  have Fb165_11 : Fld Z h8 b165 "com/example/gridfare/gridfare/engine/ResidualNetwork" "levelled" "[I" .null := D8 (Or.inr (hw _ (List.mem_of_getElem? (i := 54) rfl))) (ty := (.array .int)) (by decide)
  have Fb165_12 : Fld Z h8 b165 "com/example/gridfare/gridfare/engine/ResidualNetwork" "arcInto" "[I" .null := D8 (Or.inr (hw _ (List.mem_of_getElem? (i := 56) rfl))) (ty := (.array .int)) (by decide)
  have Fb165_13 : Fld Z h8 b165 "com/example/gridfare/gridfare/engine/ResidualNetwork" "price" "[J" .null := D8 (Or.inr (hw _ (List.mem_of_getElem? (i := 58) rfl))) (ty := (.array .long)) (by decide)
  have Fb165_14 : Fld Z h8 b165 "com/example/gridfare/gridfare/engine/ResidualNetwork" "excess" "[J" .null := D8 (Or.inr (hw _ (List.mem_of_getElem? (i := 60) rfl))) (ty := (.array .long)) (by decide)
  have Fb165_15 : Fld Z h8 b165 "com/example/gridfare/gridfare/engine/ResidualNetwork" "active" "[I" .null := D8 (Or.inr (hw _ (List.mem_of_getElem? (i := 62) rfl))) (ty := (.array .int)) (by decide)
  have Fb165_16 : Fld Z h8 b165 "com/example/gridfare/gridfare/engine/ResidualNetwork" "queued" "[Z" .null := D8 (Or.inr (hw _ (List.mem_of_getElem? (i := 65) rfl))) (ty := (.array .boolean)) (by decide)
  have Fb165_17 : Fld Z h8 b165 "com/example/gridfare/gridfare/engine/ResidualNetwork" "nearestDeficit" "Lcom/example/gridfare/gridfare/engine/BucketQueue;" .null := D8 (Or.inr (hw _ (List.mem_of_getElem? (i := 85) rfl))) (ty := (.object "com/example/gridfare/gridfare/engine/BucketQueue")) (by decide)
  have Fb165_18 : Fld Z h8 b165 "com/example/gridfare/gridfare/engine/ResidualNetwork" "settled" "[Z" .null := D8 (Or.inr (hw _ (List.mem_of_getElem? (i := 87) rfl))) (ty := (.array .boolean)) (by decide)
  have Fb165_19 : Fld Z h8 b165 "com/example/gridfare/gridfare/engine/ResidualNetwork" "potential" "[J" .null := D8 (Or.inr (hw _ (List.mem_of_getElem? (i := 89) rfl))) (ty := (.array .long)) (by decide)
  have Fb165_1a : Fld Z h8 b165 "com/example/gridfare/gridfare/engine/ResidualNetwork" "lowering" "Lcom/example/gridfare/gridfare/engine/LoweringTree;" .null := D8 (Or.inr (hw _ (List.mem_of_getElem? (i := 111) rfl))) (ty := (.object "com/example/gridfare/gridfare/engine/LoweringTree")) (by decide)
  have Fb165_1b : Fld Z h8 b165 "com/example/gridfare/gridfare/engine/ResidualNetwork" "currentArc" "[I" .null := D8 (Or.inr (hw _ (List.mem_of_getElem? (i := 113) rfl))) (ty := (.array .int)) (by decide)
  show own_WP p e below _ T8 (mkF m 168 _ [(.ref b165)])
  refine own_go (fun _ => XS.dup X8.here hx rfl (hb hby at_168) rfl rfl) ?_
  show own_WP p e below _ T8 (mkF m 169 _ [(.ref b165), (.ref b165)])
  refine own_go (fun _ => XS.iconst X8.here hx rfl (hb hby at_169)) ?_
  show own_WP p e below _ T8 (mkF m 170 _ [(.int (3 : Int32)), (.ref b165), (.ref b165)])
  refine own_go (fun _ => XS.iconst X8.here hx rfl (hb hby at_170)) ?_
  show own_WP p e below _ T8 (mkF m 171 _ [(.int (4 : Int32)), (.int (3 : Int32)), (.ref b165), (.ref b165)])
  refine own_go (fun _ => XS.aload X8.here hx rfl (hb hby at_171) rfl rfl) ?_
  show own_WP p e below _ T8 (mkF m 173 _ [(.ref b47), (.int (4 : Int32)), (.int (3 : Int32)), (.ref b165), (.ref b165)])
  refine own_go (fun _ => XS.aload X8.here hx rfl (hb hby at_173) rfl rfl) ?_
  show own_WP p e below _ T8 (mkF m 175 _ [(.ref b52), (.ref b47), (.int (4 : Int32)), (.int (3 : Int32)), (.ref b165), (.ref b165)])
  refine own_go (fun _ => XS.aload X8.here hx rfl (hb hby at_175) rfl rfl) ?_
  show own_WP p e below _ T8 (mkF m 177 _ [(.ref b57), (.ref b52), (.ref b47), (.int (4 : Int32)), (.int (3 : Int32)), (.ref b165), (.ref b165)])
  refine own_go (fun _ => XS.iconst X8.here hx rfl (hb hby at_177)) ?_
  show own_WP p e below _ T8 (mkF m 178 #[.val (.int x0), .val (.int x1), .val (.int x2), .val (.int x3), .val (.long x4), .second, .val (.int x6), .val (.int x7), .val (.int x8), .val (.int x9), .val (.int x10), .val (.long x11), .second, .val (.int x13), .val (.int x14), .val (.ref b47), .val (.ref b52), .val (.ref b57), .unset, .unset, .unset, .unset, .unset, .unset, .unset, .unset, .unset, .unset, .unset, .unset, .unset, .unset, .unset, .unset, .unset, .unset, .unset] [(.int (4 : Int32)), (.ref b57), (.ref b52), (.ref b47), (.int (4 : Int32)), (.int (3 : Int32)), (.ref b165), (.ref b165)])
  obtain ⟨T9, h9, b178, X9, e9, E9, hb_b178, V_b178, st9⟩ := own_newJ X8 C e8 (aty := .long) (ty := .long) rfl rfl rfl (hw _ (List.mem_of_getElem? (i := 13) rfl)) (n := (4 : Int32)) (by decide) (cap := 4) (by decide) (by decide) (by decide) (by decide) (pc := 178) (Ls := #[.val (.int x0), .val (.int x1), .val (.int x2), .val (.int x3), .val (.long x4), .second, .val (.int x6), .val (.int x7), .val (.int x8), .val (.int x9), .val (.int x10), .val (.long x11), .second, .val (.int x13), .val (.int x14), .val (.ref b47), .val (.ref b52), .val (.ref b57), .unset, .unset, .unset, .unset, .unset, .unset, .unset, .unset, .unset, .unset, .unset, .unset, .unset, .unset, .unset, .unset, .unset, .unset, .unset]) (rest := [(.ref b57), (.ref b52), (.ref b47), (.int (4 : Int32)), (.int (3 : Int32)), (.ref b165), (.ref b165)]) (hb hby at_178)
  refine own_go st9 ?_
  have o_b165_b178 : b165 < b178 := by have q : b165 < h8.size := E_b165.lt; omega
  replace V_b47 := V_b47.ext E9
  replace V_b52 := V_b52.ext E9
  replace V_b57 := V_b57.ext E9
  replace E_b165 := E_b165.ext E9
  replace Fb165_8 := Fb165_8.ext E9
  replace Fb165_9 := Fb165_9.ext E9
  replace Fb165_a := Fb165_a.ext E9
  replace Fb165_b := Fb165_b.ext E9
  replace Fb165_c := Fb165_c.ext E9
  replace Fb165_d := Fb165_d.ext E9
  replace Fb165_e := Fb165_e.ext E9
  replace Fb165_f := Fb165_f.ext E9
  replace Fb165_10 := Fb165_10.ext E9
  replace Fb165_11 := Fb165_11.ext E9
  replace Fb165_12 := Fb165_12.ext E9
  replace Fb165_13 := Fb165_13.ext E9
  replace Fb165_14 := Fb165_14.ext E9
  replace Fb165_15 := Fb165_15.ext E9
  replace Fb165_16 := Fb165_16.ext E9
  replace Fb165_17 := Fb165_17.ext E9
  replace Fb165_18 := Fb165_18.ext E9
  replace Fb165_19 := Fb165_19.ext E9
  replace Fb165_1a := Fb165_1a.ext E9
  replace Fb165_1b := Fb165_1b.ext E9
  replace K := K.ext E9
  replace V_b178 : own_AJ Z h9 b178 .long [0, 0, 0, 0] := V_b178
  clear st9 E9 hb_b178 X8 e8
  show own_WP p e below _ T9 (mkF m 180 #[.val (.int x0), .val (.int x1), .val (.int x2), .val (.int x3), .val (.long x4), .second, .val (.int x6), .val (.int x7), .val (.int x8), .val (.int x9), .val (.int x10), .val (.long x11), .second, .val (.int x13), .val (.int x14), .val (.ref b47), .val (.ref b52), .val (.ref b57), .unset, .unset, .unset, .unset, .unset, .unset, .unset, .unset, .unset, .unset, .unset, .unset, .unset, .unset, .unset, .unset, .unset, .unset, .unset] [(.ref b178), (.ref b57), (.ref b52), (.ref b47), (.int (4 : Int32)), (.int (3 : Int32)), (.ref b165), (.ref b165)])
  obtain ⟨rr10, hf10, hv⟩ := own_bind hv
  obtain ⟨T10, v10, L10, X10, ⟨N10, K10, Q10⟩, st10⟩ := own_callN X9 C (a := b165) (argsL := [(.int (3 : Int32)), (.int (4 : Int32)), (.ref b47), (.ref b52), (.ref b57), (.ref b178)]) (rm3 l Z a0 hw n0 h9 (by have q := K.1; omega) (by omega) (by omega) (by omega) (by omega) (by omega) V_b47 V_b52 V_b57 E_b165 Fb165_8 Fb165_9 Fb165_a Fb165_b Fb165_c Fb165_d Fb165_e Fb165_f Fb165_10 Fb165_11 Fb165_12 Fb165_13 Fb165_14 Fb165_15 Fb165_16 Fb165_17 Fb165_18 Fb165_19 Fb165_1a Fb165_1b V_b178 (3 : Int32) (4 : Int32) rr10 hf10) rfl (hw _ (List.mem_of_getElem? (i := 14) rfl)) (hw _ (List.mem_of_getElem? (i := 15) rfl)) (hw _ (List.mem_of_getElem? (i := 12) rfl)) (hw _ (List.mem_of_getElem? (i := 16) rfl)) (by decide) e9 (W := 1) (pc := 180) (Ls := #[.val (.int x0), .val (.int x1), .val (.int x2), .val (.int x3), .val (.long x4), .second, .val (.int x6), .val (.int x7), .val (.int x8), .val (.int x9), .val (.int x10), .val (.long x11), .second, .val (.int x13), .val (.int x14), .val (.ref b47), .val (.ref b52), .val (.ref b57), .unset, .unset, .unset, .unset, .unset, .unset, .unset, .unset, .unset, .unset, .unset, .unset, .unset, .unset, .unset, .unset, .unset, .unset, .unset]) rfl (lenOf pd3 rfl) (rest := [(.ref b165)]) (stk := [(.ref b178), (.ref b57), (.ref b52), (.ref b47), (.int (4 : Int32)), (.int (3 : Int32)), (.ref b165), (.ref b165)]) rfl (Nat.le_of_ble_eq_true rfl) (hb hby at_180) (by decide) (by decide) (by decide) (by decide)
  replace N := Fr.app N N10
  have lt10 : b178 < h9.size := V_b178.lt
  replace V_b47 := V_b47.keep K10 (ninS (own_ne (by omega)) nin0)
  replace V_b52 := V_b52.keep K10 (ninS (own_ne (by omega)) nin0)
  replace V_b57 := V_b57.keep K10 (ninS (own_ne (by omega)) nin0)
  replace V_b178 := V_b178.keep K10 (ninS (own_ne (by omega)) nin0)
  clear E_b165
  clear Fb165_8
  clear Fb165_9
  clear Fb165_a
  clear Fb165_b
  clear Fb165_c
  clear Fb165_d
  clear Fb165_e
  clear Fb165_f
  clear Fb165_10
  clear Fb165_11
  clear Fb165_12
  clear Fb165_13
  clear Fb165_14
  clear Fb165_15
  clear Fb165_16
  clear Fb165_17
  clear Fb165_18
  clear Fb165_19
  clear Fb165_1a
  clear Fb165_1b
  obtain ⟨b180_b28, b180_b35, b180_b43, b180_b51, b180_b59, b180_b295, b180_b302, b180_b309, b180_b385, zz10, oo10_0, oo10_1, oo10_2, oo10_3, oo10_4, oo10_5, oo10_6, oo10_7, rfl, E_b165, Fb165_8, Fb165_a, Fb165_b, Fb165_c, Fb165_d, Fb165_e, Fb165_10, Fb165_11, Fb165_12, Fb165_1b, V_b180_b28, V_b180_b35, V_b180_b43, V_b180_b51, V_b180_b59, V_b180_b295, V_b180_b302, V_b180_b309, V_b180_b385⟩ := Q10
  have o_b178_b180_b28 : b178 < b180_b28 := by omega
  have o_b180_b28_b180_b35 := oo10_0
  have o_b180_b35_b180_b43 := oo10_1
  have o_b180_b43_b180_b51 := oo10_2
  have o_b180_b51_b180_b59 := oo10_3
  have o_b180_b59_b180_b295 := oo10_4
  have o_b180_b295_b180_b302 := oo10_5
  have o_b180_b302_b180_b309 := oo10_6
  have o_b180_b309_b180_b385 := oo10_7
  replace K := K.trans K10 (allS (Or.inr (by omega)) all0)
  refine own_go st10 ?_
  clear st10 N10 K10 hf10 X9 e9
  have g_b52 : n0 ≤ b52 := by omega
  have z_b52 : h0.size ≤ b52 := by omega
  clear V_b47
  have g_b57 : n0 ≤ b57 := by omega
  have z_b57 : h0.size ≤ b57 := by omega
  clear V_b52
  have g_b165 : n0 ≤ b165 := by omega
  have z_b165 : h0.size ≤ b165 := by omega
  clear V_b57
  have o_b165_b180_b28 : b165 < b180_b28 := by omega
  clear V_b178
  show own_WP p e below _ T10 (mkF m 183 #[.val (.int x0), .val (.int x1), .val (.int x2), .val (.int x3), .val (.long x4), .second, .val (.int x6), .val (.int x7), .val (.int x8), .val (.int x9), .val (.int x10), .val (.long x11), .second, .val (.int x13), .val (.int x14), .val (.ref b47), .val (.ref b52), .val (.ref b57), .unset, .unset, .unset, .unset, .unset, .unset, .unset, .unset, .unset, .unset, .unset, .unset, .unset, .unset, .unset, .unset, .unset, .unset, .unset] [(.ref b165)])
  refine own_go (fun _ => XS.astore X10.here hx rfl (hb hby at_183) rfl rfl rfl) ?_
  show own_WP p e below _ T10 (mkF m 185 #[.val (.int x0), .val (.int x1), .val (.int x2), .val (.int x3), .val (.long x4), .second, .val (.int x6), .val (.int x7), .val (.int x8), .val (.int x9), .val (.int x10), .val (.long x11), .second, .val (.int x13), .val (.int x14), .val (.ref b47), .val (.ref b52), .val (.ref b57), .val (.ref b165), .unset, .unset, .unset, .unset, .unset, .unset, .unset, .unset, .unset, .unset, .unset, .unset, .unset, .unset, .unset, .unset, .unset, .unset] [])
  refine own_go (fun _ => XS.aload X10.here hx rfl (hb hby at_185) rfl rfl) ?_
  show own_WP p e below _ T10 (mkF m 187 _ [(.ref b165)])
  refine own_go (fun _ => XS.iconst X10.here hx rfl (hb hby at_187)) ?_
  show own_WP p e below _ T10 (mkF m 188 _ [(.int (0 : Int32)), (.ref b165)])
  refine own_go (fun _ => XS.iload X10.here hx rfl (hb hby at_188) rfl) ?_
  show own_WP p e below _ T10 (mkF m 190 #[.val (.int x0), .val (.int x1), .val (.int x2), .val (.int x3), .val (.long x4), .second, .val (.int x6), .val (.int x7), .val (.int x8), .val (.int x9), .val (.int x10), .val (.long x11), .second, .val (.int x13), .val (.int x14), .val (.ref b47), .val (.ref b52), .val (.ref b57), .val (.ref b165), .unset, .unset, .unset, .unset, .unset, .unset, .unset, .unset, .unset, .unset, .unset, .unset, .unset, .unset, .unset, .unset, .unset, .unset] [(.int x14), (.int (0 : Int32)), (.ref b165)])
  obtain ⟨T11, v11, L11, X11, ⟨rfl, rfl, e11⟩, st11⟩ := own_callS X10 C (rm2 l Z a0 hw (0 : Int32) x14 T10.heap) (hw _ (List.mem_of_getElem? (i := 7) rfl)) (hw _ (List.mem_of_getElem? (i := 8) rfl)) (hw _ (List.mem_of_getElem? (i := 5) rfl)) (hw _ (List.mem_of_getElem? (i := 9) rfl)) (by decide) (rfl : T10.heap = T10.heap) (W := 1) (pc := 190) (Ls := #[.val (.int x0), .val (.int x1), .val (.int x2), .val (.int x3), .val (.long x4), .second, .val (.int x6), .val (.int x7), .val (.int x8), .val (.int x9), .val (.int x10), .val (.long x11), .second, .val (.int x13), .val (.int x14), .val (.ref b47), .val (.ref b52), .val (.ref b57), .val (.ref b165), .unset, .unset, .unset, .unset, .unset, .unset, .unset, .unset, .unset, .unset, .unset, .unset, .unset, .unset, .unset, .unset, .unset, .unset]) rfl (lenOf pd2 rfl) (rest := [(.ref b165)]) (stk := [(.int x14), (.int (0 : Int32)), (.ref b165)]) rfl (Nat.le_of_ble_eq_true rfl) (hb hby at_190) (by decide) (by decide) (by decide) (by decide)
  rw [List.append_nil] at X11
  refine own_go st11 ?_
  clear st11 X10
  show own_WP p e below _ T11 (mkF m 193 _ [(.int (f2_0 (0 : Int32) x14)), (.ref b165)])
  refine own_go (fun _ => XS.iconst X11.here hx rfl (hb hby at_193)) ?_
  show own_WP p e below _ T11 (mkF m 194 _ [(.int (2 : Int32)), (.int (f2_0 (0 : Int32) x14)), (.ref b165)])
  refine own_go (fun _ => XS.iload X11.here hx rfl (hb hby at_194) rfl) ?_
  show own_WP p e below _ T11 (mkF m 196 #[.val (.int x0), .val (.int x1), .val (.int x2), .val (.int x3), .val (.long x4), .second, .val (.int x6), .val (.int x7), .val (.int x8), .val (.int x9), .val (.int x10), .val (.long x11), .second, .val (.int x13), .val (.int x14), .val (.ref b47), .val (.ref b52), .val (.ref b57), .val (.ref b165), .unset, .unset, .unset, .unset, .unset, .unset, .unset, .unset, .unset, .unset, .unset, .unset, .unset, .unset, .unset, .unset, .unset, .unset] [(.int x14), (.int (2 : Int32)), (.int (f2_0 (0 : Int32) x14)), (.ref b165)])
  obtain ⟨T12, v12, L12, X12, ⟨rfl, rfl, e12⟩, st12⟩ := own_callS X11 C (rm2 l Z a0 hw (2 : Int32) x14 T10.heap) (hw _ (List.mem_of_getElem? (i := 7) rfl)) (hw _ (List.mem_of_getElem? (i := 8) rfl)) (hw _ (List.mem_of_getElem? (i := 5) rfl)) (hw _ (List.mem_of_getElem? (i := 9) rfl)) (by decide) e11 (W := 2) (pc := 196) (Ls := #[.val (.int x0), .val (.int x1), .val (.int x2), .val (.int x3), .val (.long x4), .second, .val (.int x6), .val (.int x7), .val (.int x8), .val (.int x9), .val (.int x10), .val (.long x11), .second, .val (.int x13), .val (.int x14), .val (.ref b47), .val (.ref b52), .val (.ref b57), .val (.ref b165), .unset, .unset, .unset, .unset, .unset, .unset, .unset, .unset, .unset, .unset, .unset, .unset, .unset, .unset, .unset, .unset, .unset, .unset]) rfl (lenOf pd2 rfl) (rest := [(.int (f2_0 (0 : Int32) x14)), (.ref b165)]) (stk := [(.int x14), (.int (2 : Int32)), (.int (f2_0 (0 : Int32) x14)), (.ref b165)]) rfl (Nat.le_of_ble_eq_true rfl) (hb hby at_196) (by decide) (by decide) (by decide) (by decide)
  rw [List.append_nil] at X12
  refine own_go st12 ?_
  clear st12 X11 e11
  show own_WP p e below _ T12 (mkF m 199 _ [(.int (f2_0 (2 : Int32) x14)), (.int (f2_0 (0 : Int32) x14)), (.ref b165)])
  refine own_go (fun _ => XS.lload X12.here hx rfl (hb hby at_199) rfl) ?_
  show own_WP p e below _ T12 (mkF m 201 #[.val (.int x0), .val (.int x1), .val (.int x2), .val (.int x3), .val (.long x4), .second, .val (.int x6), .val (.int x7), .val (.int x8), .val (.int x9), .val (.int x10), .val (.long x11), .second, .val (.int x13), .val (.int x14), .val (.ref b47), .val (.ref b52), .val (.ref b57), .val (.ref b165), .unset, .unset, .unset, .unset, .unset, .unset, .unset, .unset, .unset, .unset, .unset, .unset, .unset, .unset, .unset, .unset, .unset, .unset] [(.long x11), (.int (f2_0 (2 : Int32) x14)), (.int (f2_0 (0 : Int32) x14)), (.ref b165)])
  obtain ⟨rr13, hf13, hv⟩ := own_bind hv
  obtain ⟨T13, v13, L13, X13, ⟨N13, K13, Q13⟩, st13⟩ := own_callV X12 C (a := b165) (argsL := [(.int (f2_0 (0 : Int32) x14)), (.int (f2_0 (2 : Int32) x14)), (.long x11)]) (rm12 l Z a0 hw n0 T10.heap (by have q := K.1; omega) (by omega) (by omega) (by omega) (by omega) (by omega) (by omega) (by omega) (by omega) (by omega) E_b165 Fb165_8 Fb165_a Fb165_c Fb165_d Fb165_e Fb165_10 Fb165_11 Fb165_12 Fb165_1b V_b180_b28 V_b180_b43 V_b180_b51 V_b180_b59 V_b180_b295 V_b180_b302 V_b180_b309 V_b180_b385 (f2_0 (0 : Int32) x14) (f2_0 (2 : Int32) x14) x11 rr13 hf13) (hw _ (List.mem_of_getElem? (i := 114) rfl)) (hw _ (List.mem_of_getElem? (i := 115) rfl)) (hw _ (List.mem_of_getElem? (i := 117) rfl)) (hw _ (List.mem_of_getElem? (i := 116) rfl)) (hw _ (List.mem_of_getElem? (i := 12) rfl)) (hw _ (List.mem_of_getElem? (i := 118) rfl)) (by decide) e12 E_b165 (W := 0) (pc := 201) (Ls := #[.val (.int x0), .val (.int x1), .val (.int x2), .val (.int x3), .val (.long x4), .second, .val (.int x6), .val (.int x7), .val (.int x8), .val (.int x9), .val (.int x10), .val (.long x11), .second, .val (.int x13), .val (.int x14), .val (.ref b47), .val (.ref b52), .val (.ref b57), .val (.ref b165), .unset, .unset, .unset, .unset, .unset, .unset, .unset, .unset, .unset, .unset, .unset, .unset, .unset, .unset, .unset, .unset, .unset, .unset]) rfl (lenOf pd12 rfl) (rest := []) (stk := [(.long x11), (.int (f2_0 (2 : Int32) x14)), (.int (f2_0 (0 : Int32) x14)), (.ref b165)]) rfl (Nat.le_of_ble_eq_true rfl) (hb hby at_201) (by decide) (by decide) (by decide) (by decide)
  replace N := Fr.app N N13
  replace E_b165 := E_b165.keep K13
  have nq : b165 ∉ ([b180_b59, b180_b295, b180_b302, b180_b309, b180_b385] : List Addr) := (ninS (own_ne (by omega)) (ninS (own_ne (by omega)) (ninS (own_ne (by omega)) (ninS (own_ne (by omega)) (ninS (own_ne (by omega)) nin0)))))
  replace Fb165_8 := Fb165_8.keep K13 nq
  replace Fb165_a := Fb165_a.keep K13 nq
  replace Fb165_b := Fb165_b.keep K13 nq
  replace Fb165_c := Fb165_c.keep K13 nq
  replace Fb165_d := Fb165_d.keep K13 nq
  replace Fb165_e := Fb165_e.keep K13 nq
  replace Fb165_10 := Fb165_10.keep K13 nq
  replace Fb165_11 := Fb165_11.keep K13 nq
  replace Fb165_12 := Fb165_12.keep K13 nq
  replace Fb165_1b := Fb165_1b.keep K13 nq
  clear nq
  replace V_b180_b28 := V_b180_b28.keep K13 (ninS (own_ne (by omega)) (ninS (own_ne (by omega)) (ninS (own_ne (by omega)) (ninS (own_ne (by omega)) (ninS (own_ne (by omega)) nin0)))))
  replace V_b180_b35 := V_b180_b35.keep K13 (ninS (own_ne (by omega)) (ninS (own_ne (by omega)) (ninS (own_ne (by omega)) (ninS (own_ne (by omega)) (ninS (own_ne (by omega)) nin0)))))
  replace V_b180_b43 := V_b180_b43.keep K13 (ninS (own_ne (by omega)) (ninS (own_ne (by omega)) (ninS (own_ne (by omega)) (ninS (own_ne (by omega)) (ninS (own_ne (by omega)) nin0)))))
  replace V_b180_b51 := V_b180_b51.keep K13 (ninS (own_ne (by omega)) (ninS (own_ne (by omega)) (ninS (own_ne (by omega)) (ninS (own_ne (by omega)) (ninS (own_ne (by omega)) nin0)))))
  clear V_b180_b59
  clear V_b180_b295
  clear V_b180_b302
  clear V_b180_b309
  clear V_b180_b385
  obtain ⟨rfl, V_b180_b59, V_b180_b295, V_b180_b302, V_b180_b309, V_b180_b385⟩ := Q13
  replace K := K.trans K13 (allS (Or.inr (by omega)) (allS (Or.inr (by omega)) (allS (Or.inr (by omega)) (allS (Or.inr (by omega)) (allS (Or.inr (by omega)) all0)))))
  refine own_go st13 ?_
  clear st13 N13 K13 hf13 X12 e12
  show own_WP p e below _ T13 (mkF m 204 #[.val (.int x0), .val (.int x1), .val (.int x2), .val (.int x3), .val (.long x4), .second, .val (.int x6), .val (.int x7), .val (.int x8), .val (.int x9), .val (.int x10), .val (.long x11), .second, .val (.int x13), .val (.int x14), .val (.ref b47), .val (.ref b52), .val (.ref b57), .val (.ref b165), .unset, .unset, .unset, .unset, .unset, .unset, .unset, .unset, .unset, .unset, .unset, .unset, .unset, .unset, .unset, .unset, .unset, .unset] [(.long (rr13.1))])
  refine own_go (fun _ => XS.lstore X13.here hx rfl (hb hby at_204) rfl rfl) ?_
  clear Fb165_8
  clear Fb165_a
  clear Fb165_c
  clear Fb165_10
  clear Fb165_11
  clear Fb165_12
  clear Fb165_1b
  have o_b165_b180_b35 : b165 < b180_b35 := by omega
  clear V_b180_b28
  have o_b180_b35_b180_b51 : b180_b35 < b180_b51 := by omega
  clear V_b180_b43
  have o_b180_b59_b180_b302 : b180_b59 < b180_b302 := by omega
  clear V_b180_b295
  have o_b180_b59_b180_b309 : b180_b59 < b180_b309 := by omega
  clear V_b180_b302
  have o_b180_b59_b180_b385 : b180_b59 < b180_b385 := by omega
  clear V_b180_b309
  clear V_b180_b385
  show own_WP p e below _ T13 (mkF m 206 #[.val (.int x0), .val (.int x1), .val (.int x2), .val (.int x3), .val (.long x4), .second, .val (.int x6), .val (.int x7), .val (.int x8), .val (.int x9), .val (.int x10), .val (.long x11), .second, .val (.int x13), .val (.int x14), .val (.ref b47), .val (.ref b52), .val (.ref b57), .val (.ref b165), .val (.long (rr13.1)), .second, .unset, .unset, .unset, .unset, .unset, .unset, .unset, .unset, .unset, .unset, .unset, .unset, .unset, .unset, .unset, .unset] [])
  exact b0_206 hw C Z0 rr hP X13 (rfl : T13.heap = T13.heap) N K o_b165_b180_b35 o_b180_b35_b180_b51 o_b180_b51_b180_b59 g_b165 z_b165 E_b165 Fb165_b Fb165_d Fb165_e V_b180_b35 V_b180_b51 V_b180_b59 x0 x1 x2 x3 x4 x6 x7 x8 x9 x10 x11 x13 x14 (.val (.ref b47)) (One.val rfl) (.val (.ref b52)) (One.val rfl) (.val (.ref b57)) (One.val rfl) (rr13.1) hv
def f0_113 (v_b47 : List Int32) (v_b52 : List Int32) (v_b57 : List Int32) (x7 : Int32) (x8 : Int32) (x9 : Int32) (x10 : Int32) (x11 : Int64) (x13 : Int32) (x14 : Int32) : Option (Int32) := ((f1_0 v_b47 v_b52 v_b57 (2 : Int32) (((2 : Int32) + x13) &&& (3 : Int32)) x14 x7 x8 x9 x10).bind fun rr6 => ((f1_0 (rr6.1) (rr6.2.1) (rr6.2.2) (3 : Int32) (((3 : Int32) + x13) &&& (3 : Int32)) x14 x7 x8 x9 x10).bind fun rr7 => (f0_165 (rr7.1) (rr7.2.1) (rr7.2.2) x7 x8 x9 x11 x13 x14)))
set_option maxRecDepth 65536 in
set_option maxHeartbeats 40000000 in
theorem b0_113 {p : Program} {l : Launch} {e : Env} {s : State} {m : MethodId} {args : Array Value} {below : List Frame} {meth : Method} {c : Code} {Z : State} {a0 : Array Value} {h0 : Heap} {n0 : Nat} {P : Option Value → Heap → List Loc → Prop} (hw : ∀ d ∈ tables_1, d.before a0 Z = true) (C : own_Ctx p s m meth c Z x code maxLocals ret) (Z0 : n0 ≤ h0.size)   (rr : Int32) (hP : ∀ v h L, Fr n0 L → Keep h0 h [] → E0 Z h0  rr v h → P v h L)
    {T : State} {locs : List Loc} {h : Heap} {b47 : Nat} {b52 : Nat} {b57 : Nat} {v_b47 : List Int32} {v_b52 : List Int32} {v_b57 : List Int32} (X : Stand p l e room_1 s m args below meth c T locs 3 12) (e0 : T.heap = h) (N : Fr n0 locs) (K : Keep h0 h []) (o_b47_b52 : b47 < b52) (o_b52_b57 : b52 < b57) (g_b47 : n0 ≤ b47) (z_b47 : h0.size ≤ b47) (V_b47 : own_AI Z h b47 .int v_b47) (V_b52 : own_AI Z h b52 .int v_b52) (V_b57 : own_AI Z h b57 .int v_b57) (x0 : Int32) (x1 : Int32) (x2 : Int32) (x3 : Int32) (x4 : Int64) (x6 : Int32) (x7 : Int32) (x8 : Int32) (x9 : Int32) (x10 : Int32) (x11 : Int64) (x13 : Int32) (x14 : Int32) (hv : f0_113 v_b47 v_b52 v_b57 x7 x8 x9 x10 x11 x13 x14 = some rr) :
    own_WP p e below (own_Q s P room_1.cells room_1.slots) T (mkF m 113 #[.val (.int x0), .val (.int x1), .val (.int x2), .val (.int x3), .val (.long x4), .second, .val (.int x6), .val (.int x7), .val (.int x8), .val (.int x9), .val (.int x10), .val (.long x11), .second, .val (.int x13), .val (.int x14), .val (.ref b47), .val (.ref b52), .val (.ref b57), .unset, .unset, .unset, .unset, .unset, .unset, .unset, .unset, .unset, .unset, .unset, .unset, .unset, .unset, .unset, .unset, .unset, .unset, .unset] []) := by
  obtain ⟨hx, hZ, hby, hml, hown, hnm, hret, hlk⟩ := id C
  replace hown : s.vm.findClass "com/example/gridfare/gridfare/engine/ResidualNetworkFlowsPinLaw" = some m.cls := hown
  unfold f0_113 at hv
  show own_WP p e below _ T (mkF m 113 #[.val (.int x0), .val (.int x1), .val (.int x2), .val (.int x3), .val (.long x4), .second, .val (.int x6), .val (.int x7), .val (.int x8), .val (.int x9), .val (.int x10), .val (.long x11), .second, .val (.int x13), .val (.int x14), .val (.ref b47), .val (.ref b52), .val (.ref b57), .unset, .unset, .unset, .unset, .unset, .unset, .unset, .unset, .unset, .unset, .unset, .unset, .unset, .unset, .unset, .unset, .unset, .unset, .unset] [])
  refine own_go (fun _ => XS.aload X.here hx rfl (hb hby at_113) rfl rfl) ?_
  show own_WP p e below _ T (mkF m 115 _ [(.ref b47)])
  refine own_go (fun _ => XS.aload X.here hx rfl (hb hby at_115) rfl rfl) ?_
  show own_WP p e below _ T (mkF m 117 _ [(.ref b52), (.ref b47)])
  refine own_go (fun _ => XS.aload X.here hx rfl (hb hby at_117) rfl rfl) ?_
  show own_WP p e below _ T (mkF m 119 _ [(.ref b57), (.ref b52), (.ref b47)])
  refine own_go (fun _ => XS.iconst X.here hx rfl (hb hby at_119)) ?_
  show own_WP p e below _ T (mkF m 120 _ [(.int (2 : Int32)), (.ref b57), (.ref b52), (.ref b47)])
  refine own_go (fun _ => XS.iconst X.here hx rfl (hb hby at_120)) ?_
  show own_WP p e below _ T (mkF m 121 _ [(.int (2 : Int32)), (.int (2 : Int32)), (.ref b57), (.ref b52), (.ref b47)])
  refine own_go (fun _ => XS.iload X.here hx rfl (hb hby at_121) rfl) ?_
  show own_WP p e below _ T (mkF m 123 _ [(.int x13), (.int (2 : Int32)), (.int (2 : Int32)), (.ref b57), (.ref b52), (.ref b47)])
  refine own_go (fun _ => XS.iadd X.here hx rfl (hb hby at_123) rfl) ?_
  show own_WP p e below _ T (mkF m 124 _ [(.int ((2 : Int32) + x13)), (.int (2 : Int32)), (.ref b57), (.ref b52), (.ref b47)])
  refine own_go (fun _ => XS.iconst X.here hx rfl (hb hby at_124)) ?_
  show own_WP p e below _ T (mkF m 125 #[.val (.int x0), .val (.int x1), .val (.int x2), .val (.int x3), .val (.long x4), .second, .val (.int x6), .val (.int x7), .val (.int x8), .val (.int x9), .val (.int x10), .val (.long x11), .second, .val (.int x13), .val (.int x14), .val (.ref b47), .val (.ref b52), .val (.ref b57), .unset, .unset, .unset, .unset, .unset, .unset, .unset, .unset, .unset, .unset, .unset, .unset, .unset, .unset, .unset, .unset, .unset, .unset, .unset] [(.int (3 : Int32)), (.int ((2 : Int32) + x13)), (.int (2 : Int32)), (.ref b57), (.ref b52), (.ref b47)])
  refine own_go (fun _ => XS.iand X.here hx rfl (hb hby at_125) rfl) ?_
  show own_WP p e below _ T (mkF m 126 _ [(.int (((2 : Int32) + x13) &&& (3 : Int32))), (.int (2 : Int32)), (.ref b57), (.ref b52), (.ref b47)])
  refine own_go (fun _ => XS.iload X.here hx rfl (hb hby at_126) rfl) ?_
  show own_WP p e below _ T (mkF m 128 _ [(.int x14), (.int (((2 : Int32) + x13) &&& (3 : Int32))), (.int (2 : Int32)), (.ref b57), (.ref b52), (.ref b47)])
  refine own_go (fun _ => XS.iload X.here hx rfl (hb hby at_128) rfl) ?_
  show own_WP p e below _ T (mkF m 130 _ [(.int x7), (.int x14), (.int (((2 : Int32) + x13) &&& (3 : Int32))), (.int (2 : Int32)), (.ref b57), (.ref b52), (.ref b47)])
  refine own_go (fun _ => XS.iload X.here hx rfl (hb hby at_130) rfl) ?_
  show own_WP p e below _ T (mkF m 132 _ [(.int x8), (.int x7), (.int x14), (.int (((2 : Int32) + x13) &&& (3 : Int32))), (.int (2 : Int32)), (.ref b57), (.ref b52), (.ref b47)])
  refine own_go (fun _ => XS.iload X.here hx rfl (hb hby at_132) rfl) ?_
  show own_WP p e below _ T (mkF m 134 _ [(.int x9), (.int x8), (.int x7), (.int x14), (.int (((2 : Int32) + x13) &&& (3 : Int32))), (.int (2 : Int32)), (.ref b57), (.ref b52), (.ref b47)])
  refine own_go (fun _ => XS.iload X.here hx rfl (hb hby at_134) rfl) ?_
  show own_WP p e below _ T (mkF m 136 #[.val (.int x0), .val (.int x1), .val (.int x2), .val (.int x3), .val (.long x4), .second, .val (.int x6), .val (.int x7), .val (.int x8), .val (.int x9), .val (.int x10), .val (.long x11), .second, .val (.int x13), .val (.int x14), .val (.ref b47), .val (.ref b52), .val (.ref b57), .unset, .unset, .unset, .unset, .unset, .unset, .unset, .unset, .unset, .unset, .unset, .unset, .unset, .unset, .unset, .unset, .unset, .unset, .unset] [(.int x10), (.int x9), (.int x8), (.int x7), (.int x14), (.int (((2 : Int32) + x13) &&& (3 : Int32))), (.int (2 : Int32)), (.ref b57), (.ref b52), (.ref b47)])
  obtain ⟨rr6, hf6, hv⟩ := own_bind hv
  obtain ⟨T6, v6, L6, X6, ⟨N6, K6, Q6⟩, st6⟩ := own_callS X C (argsL := [(.ref b47), (.ref b52), (.ref b57), (.int (2 : Int32)), (.int (((2 : Int32) + x13) &&& (3 : Int32))), (.int x14), (.int x7), (.int x8), (.int x9), (.int x10)]) (rm1 l Z a0 hw n0 h (by have q := K.1; omega) (by omega) (by omega) (by omega) V_b47 V_b52 V_b57 (2 : Int32) (((2 : Int32) + x13) &&& (3 : Int32)) x14 x7 x8 x9 x10 rr6 hf6) (hw _ (List.mem_of_getElem? (i := 3) rfl)) (hw _ (List.mem_of_getElem? (i := 4) rfl)) (hw _ (List.mem_of_getElem? (i := 5) rfl)) (hw _ (List.mem_of_getElem? (i := 6) rfl)) (by decide) e0 (W := 0) (pc := 136) (Ls := #[.val (.int x0), .val (.int x1), .val (.int x2), .val (.int x3), .val (.long x4), .second, .val (.int x6), .val (.int x7), .val (.int x8), .val (.int x9), .val (.int x10), .val (.long x11), .second, .val (.int x13), .val (.int x14), .val (.ref b47), .val (.ref b52), .val (.ref b57), .unset, .unset, .unset, .unset, .unset, .unset, .unset, .unset, .unset, .unset, .unset, .unset, .unset, .unset, .unset, .unset, .unset, .unset, .unset]) rfl (lenOf pd1 rfl) (rest := []) (stk := [(.int x10), (.int x9), (.int x8), (.int x7), (.int x14), (.int (((2 : Int32) + x13) &&& (3 : Int32))), (.int (2 : Int32)), (.ref b57), (.ref b52), (.ref b47)]) rfl (Nat.le_of_ble_eq_true rfl) (hb hby at_136) (by decide) (by decide) (by decide) (by decide)
  replace N := Fr.app N N6
  clear V_b47
  clear V_b52
  clear V_b57
  obtain ⟨rfl, V_b47, V_b52, V_b57⟩ := Q6
  replace K := K.trans K6 (allS (Or.inr (by omega)) (allS (Or.inr (by omega)) (allS (Or.inr (by omega)) all0)))
  refine own_go st6 ?_
  clear st6 N6 K6 hf6 X e0
  show own_WP p e below _ T6 (mkF m 139 _ [])
  refine own_go (fun _ => XS.aload X6.here hx rfl (hb hby at_139) rfl rfl) ?_
  show own_WP p e below _ T6 (mkF m 141 _ [(.ref b47)])
  refine own_go (fun _ => XS.aload X6.here hx rfl (hb hby at_141) rfl rfl) ?_
  show own_WP p e below _ T6 (mkF m 143 _ [(.ref b52), (.ref b47)])
  refine own_go (fun _ => XS.aload X6.here hx rfl (hb hby at_143) rfl rfl) ?_
  show own_WP p e below _ T6 (mkF m 145 _ [(.ref b57), (.ref b52), (.ref b47)])
  refine own_go (fun _ => XS.iconst X6.here hx rfl (hb hby at_145)) ?_
  show own_WP p e below _ T6 (mkF m 146 _ [(.int (3 : Int32)), (.ref b57), (.ref b52), (.ref b47)])
  refine own_go (fun _ => XS.iconst X6.here hx rfl (hb hby at_146)) ?_
  show own_WP p e below _ T6 (mkF m 147 _ [(.int (3 : Int32)), (.int (3 : Int32)), (.ref b57), (.ref b52), (.ref b47)])
  refine own_go (fun _ => XS.iload X6.here hx rfl (hb hby at_147) rfl) ?_
  show own_WP p e below _ T6 (mkF m 149 _ [(.int x13), (.int (3 : Int32)), (.int (3 : Int32)), (.ref b57), (.ref b52), (.ref b47)])
  refine own_go (fun _ => XS.iadd X6.here hx rfl (hb hby at_149) rfl) ?_
  show own_WP p e below _ T6 (mkF m 150 #[.val (.int x0), .val (.int x1), .val (.int x2), .val (.int x3), .val (.long x4), .second, .val (.int x6), .val (.int x7), .val (.int x8), .val (.int x9), .val (.int x10), .val (.long x11), .second, .val (.int x13), .val (.int x14), .val (.ref b47), .val (.ref b52), .val (.ref b57), .unset, .unset, .unset, .unset, .unset, .unset, .unset, .unset, .unset, .unset, .unset, .unset, .unset, .unset, .unset, .unset, .unset, .unset, .unset] [(.int ((3 : Int32) + x13)), (.int (3 : Int32)), (.ref b57), (.ref b52), (.ref b47)])
  refine own_go (fun _ => XS.iconst X6.here hx rfl (hb hby at_150)) ?_
  show own_WP p e below _ T6 (mkF m 151 _ [(.int (3 : Int32)), (.int ((3 : Int32) + x13)), (.int (3 : Int32)), (.ref b57), (.ref b52), (.ref b47)])
  refine own_go (fun _ => XS.iand X6.here hx rfl (hb hby at_151) rfl) ?_
  show own_WP p e below _ T6 (mkF m 152 _ [(.int (((3 : Int32) + x13) &&& (3 : Int32))), (.int (3 : Int32)), (.ref b57), (.ref b52), (.ref b47)])
  refine own_go (fun _ => XS.iload X6.here hx rfl (hb hby at_152) rfl) ?_
  show own_WP p e below _ T6 (mkF m 154 _ [(.int x14), (.int (((3 : Int32) + x13) &&& (3 : Int32))), (.int (3 : Int32)), (.ref b57), (.ref b52), (.ref b47)])
  refine own_go (fun _ => XS.iload X6.here hx rfl (hb hby at_154) rfl) ?_
  show own_WP p e below _ T6 (mkF m 156 _ [(.int x7), (.int x14), (.int (((3 : Int32) + x13) &&& (3 : Int32))), (.int (3 : Int32)), (.ref b57), (.ref b52), (.ref b47)])
  refine own_go (fun _ => XS.iload X6.here hx rfl (hb hby at_156) rfl) ?_
  show own_WP p e below _ T6 (mkF m 158 _ [(.int x8), (.int x7), (.int x14), (.int (((3 : Int32) + x13) &&& (3 : Int32))), (.int (3 : Int32)), (.ref b57), (.ref b52), (.ref b47)])
  refine own_go (fun _ => XS.iload X6.here hx rfl (hb hby at_158) rfl) ?_
  show own_WP p e below _ T6 (mkF m 160 _ [(.int x9), (.int x8), (.int x7), (.int x14), (.int (((3 : Int32) + x13) &&& (3 : Int32))), (.int (3 : Int32)), (.ref b57), (.ref b52), (.ref b47)])
  refine own_go (fun _ => XS.iload X6.here hx rfl (hb hby at_160) rfl) ?_
  show own_WP p e below _ T6 (mkF m 162 #[.val (.int x0), .val (.int x1), .val (.int x2), .val (.int x3), .val (.long x4), .second, .val (.int x6), .val (.int x7), .val (.int x8), .val (.int x9), .val (.int x10), .val (.long x11), .second, .val (.int x13), .val (.int x14), .val (.ref b47), .val (.ref b52), .val (.ref b57), .unset, .unset, .unset, .unset, .unset, .unset, .unset, .unset, .unset, .unset, .unset, .unset, .unset, .unset, .unset, .unset, .unset, .unset, .unset] [(.int x10), (.int x9), (.int x8), (.int x7), (.int x14), (.int (((3 : Int32) + x13) &&& (3 : Int32))), (.int (3 : Int32)), (.ref b57), (.ref b52), (.ref b47)])
  obtain ⟨rr7, hf7, hv⟩ := own_bind hv
  obtain ⟨T7, v7, L7, X7, ⟨N7, K7, Q7⟩, st7⟩ := own_callS X6 C (argsL := [(.ref b47), (.ref b52), (.ref b57), (.int (3 : Int32)), (.int (((3 : Int32) + x13) &&& (3 : Int32))), (.int x14), (.int x7), (.int x8), (.int x9), (.int x10)]) (rm1 l Z a0 hw n0 T6.heap (by have q := K.1; omega) (by omega) (by omega) (by omega) V_b47 V_b52 V_b57 (3 : Int32) (((3 : Int32) + x13) &&& (3 : Int32)) x14 x7 x8 x9 x10 rr7 hf7) (hw _ (List.mem_of_getElem? (i := 3) rfl)) (hw _ (List.mem_of_getElem? (i := 4) rfl)) (hw _ (List.mem_of_getElem? (i := 5) rfl)) (hw _ (List.mem_of_getElem? (i := 6) rfl)) (by decide) (rfl : T6.heap = T6.heap) (W := 0) (pc := 162) (Ls := #[.val (.int x0), .val (.int x1), .val (.int x2), .val (.int x3), .val (.long x4), .second, .val (.int x6), .val (.int x7), .val (.int x8), .val (.int x9), .val (.int x10), .val (.long x11), .second, .val (.int x13), .val (.int x14), .val (.ref b47), .val (.ref b52), .val (.ref b57), .unset, .unset, .unset, .unset, .unset, .unset, .unset, .unset, .unset, .unset, .unset, .unset, .unset, .unset, .unset, .unset, .unset, .unset, .unset]) rfl (lenOf pd1 rfl) (rest := []) (stk := [(.int x10), (.int x9), (.int x8), (.int x7), (.int x14), (.int (((3 : Int32) + x13) &&& (3 : Int32))), (.int (3 : Int32)), (.ref b57), (.ref b52), (.ref b47)]) rfl (Nat.le_of_ble_eq_true rfl) (hb hby at_162) (by decide) (by decide) (by decide) (by decide)
  replace N := Fr.app N N7
  clear V_b47
  clear V_b52
  clear V_b57
  obtain ⟨rfl, V_b47, V_b52, V_b57⟩ := Q7
  replace K := K.trans K7 (allS (Or.inr (by omega)) (allS (Or.inr (by omega)) (allS (Or.inr (by omega)) all0)))
  refine own_go st7 ?_
  clear st7 N7 K7 hf7 X6
  exact b0_165 hw C Z0 rr hP X7 (rfl : T7.heap = T7.heap) N K o_b47_b52 o_b52_b57 g_b47 z_b47 V_b47 V_b52 V_b57 x0 x1 x2 x3 x4 x6 x7 x8 x9 x10 x11 x13 x14 hv
def f0_61 (v_b47 : List Int32) (v_b52 : List Int32) (v_b57 : List Int32) (x7 : Int32) (x8 : Int32) (x9 : Int32) (x10 : Int32) (x11 : Int64) (x13 : Int32) (x14 : Int32) : Option (Int32) := ((f1_0 v_b47 v_b52 v_b57 (0 : Int32) (((0 : Int32) + x13) &&& (3 : Int32)) x14 x7 x8 x9 x10).bind fun rr4 => ((f1_0 (rr4.1) (rr4.2.1) (rr4.2.2) (1 : Int32) (((1 : Int32) + x13) &&& (3 : Int32)) x14 x7 x8 x9 x10).bind fun rr5 => (f0_113 (rr5.1) (rr5.2.1) (rr5.2.2) x7 x8 x9 x10 x11 x13 x14)))
set_option maxRecDepth 65536 in
set_option maxHeartbeats 40000000 in
theorem b0_61 {p : Program} {l : Launch} {e : Env} {s : State} {m : MethodId} {args : Array Value} {below : List Frame} {meth : Method} {c : Code} {Z : State} {a0 : Array Value} {h0 : Heap} {n0 : Nat} {P : Option Value → Heap → List Loc → Prop} (hw : ∀ d ∈ tables_1, d.before a0 Z = true) (C : own_Ctx p s m meth c Z x code maxLocals ret) (Z0 : n0 ≤ h0.size)   (rr : Int32) (hP : ∀ v h L, Fr n0 L → Keep h0 h [] → E0 Z h0  rr v h → P v h L)
    {T : State} {locs : List Loc} {h : Heap} {b47 : Nat} {b52 : Nat} {b57 : Nat} {v_b47 : List Int32} {v_b52 : List Int32} {v_b57 : List Int32} (X : Stand p l e room_1 s m args below meth c T locs 3 12) (e0 : T.heap = h) (N : Fr n0 locs) (K : Keep h0 h []) (o_b47_b52 : b47 < b52) (o_b52_b57 : b52 < b57) (g_b47 : n0 ≤ b47) (z_b47 : h0.size ≤ b47) (V_b47 : own_AI Z h b47 .int v_b47) (V_b52 : own_AI Z h b52 .int v_b52) (V_b57 : own_AI Z h b57 .int v_b57) (x0 : Int32) (x1 : Int32) (x2 : Int32) (x3 : Int32) (x4 : Int64) (x6 : Int32) (x7 : Int32) (x8 : Int32) (x9 : Int32) (x10 : Int32) (x11 : Int64) (x13 : Int32) (x14 : Int32) (hv : f0_61 v_b47 v_b52 v_b57 x7 x8 x9 x10 x11 x13 x14 = some rr) :
    own_WP p e below (own_Q s P room_1.cells room_1.slots) T (mkF m 61 #[.val (.int x0), .val (.int x1), .val (.int x2), .val (.int x3), .val (.long x4), .second, .val (.int x6), .val (.int x7), .val (.int x8), .val (.int x9), .val (.int x10), .val (.long x11), .second, .val (.int x13), .val (.int x14), .val (.ref b47), .val (.ref b52), .val (.ref b57), .unset, .unset, .unset, .unset, .unset, .unset, .unset, .unset, .unset, .unset, .unset, .unset, .unset, .unset, .unset, .unset, .unset, .unset, .unset] []) := by
  obtain ⟨hx, hZ, hby, hml, hown, hnm, hret, hlk⟩ := id C
  replace hown : s.vm.findClass "com/example/gridfare/gridfare/engine/ResidualNetworkFlowsPinLaw" = some m.cls := hown
  unfold f0_61 at hv
  show own_WP p e below _ T (mkF m 61 #[.val (.int x0), .val (.int x1), .val (.int x2), .val (.int x3), .val (.long x4), .second, .val (.int x6), .val (.int x7), .val (.int x8), .val (.int x9), .val (.int x10), .val (.long x11), .second, .val (.int x13), .val (.int x14), .val (.ref b47), .val (.ref b52), .val (.ref b57), .unset, .unset, .unset, .unset, .unset, .unset, .unset, .unset, .unset, .unset, .unset, .unset, .unset, .unset, .unset, .unset, .unset, .unset, .unset] [])
  refine own_go (fun _ => XS.aload X.here hx rfl (hb hby at_61) rfl rfl) ?_
  show own_WP p e below _ T (mkF m 63 _ [(.ref b47)])
  refine own_go (fun _ => XS.aload X.here hx rfl (hb hby at_63) rfl rfl) ?_
  show own_WP p e below _ T (mkF m 65 _ [(.ref b52), (.ref b47)])
  refine own_go (fun _ => XS.aload X.here hx rfl (hb hby at_65) rfl rfl) ?_
  show own_WP p e below _ T (mkF m 67 _ [(.ref b57), (.ref b52), (.ref b47)])
  refine own_go (fun _ => XS.iconst X.here hx rfl (hb hby at_67)) ?_
  show own_WP p e below _ T (mkF m 68 _ [(.int (0 : Int32)), (.ref b57), (.ref b52), (.ref b47)])
  refine own_go (fun _ => XS.iconst X.here hx rfl (hb hby at_68)) ?_
  show own_WP p e below _ T (mkF m 69 _ [(.int (0 : Int32)), (.int (0 : Int32)), (.ref b57), (.ref b52), (.ref b47)])
  refine own_go (fun _ => XS.iload X.here hx rfl (hb hby at_69) rfl) ?_
  show own_WP p e below _ T (mkF m 71 _ [(.int x13), (.int (0 : Int32)), (.int (0 : Int32)), (.ref b57), (.ref b52), (.ref b47)])
  refine own_go (fun _ => XS.iadd X.here hx rfl (hb hby at_71) rfl) ?_
  show own_WP p e below _ T (mkF m 72 _ [(.int ((0 : Int32) + x13)), (.int (0 : Int32)), (.ref b57), (.ref b52), (.ref b47)])
  refine own_go (fun _ => XS.iconst X.here hx rfl (hb hby at_72)) ?_
  show own_WP p e below _ T (mkF m 73 #[.val (.int x0), .val (.int x1), .val (.int x2), .val (.int x3), .val (.long x4), .second, .val (.int x6), .val (.int x7), .val (.int x8), .val (.int x9), .val (.int x10), .val (.long x11), .second, .val (.int x13), .val (.int x14), .val (.ref b47), .val (.ref b52), .val (.ref b57), .unset, .unset, .unset, .unset, .unset, .unset, .unset, .unset, .unset, .unset, .unset, .unset, .unset, .unset, .unset, .unset, .unset, .unset, .unset] [(.int (3 : Int32)), (.int ((0 : Int32) + x13)), (.int (0 : Int32)), (.ref b57), (.ref b52), (.ref b47)])
  refine own_go (fun _ => XS.iand X.here hx rfl (hb hby at_73) rfl) ?_
  show own_WP p e below _ T (mkF m 74 _ [(.int (((0 : Int32) + x13) &&& (3 : Int32))), (.int (0 : Int32)), (.ref b57), (.ref b52), (.ref b47)])
  refine own_go (fun _ => XS.iload X.here hx rfl (hb hby at_74) rfl) ?_
  show own_WP p e below _ T (mkF m 76 _ [(.int x14), (.int (((0 : Int32) + x13) &&& (3 : Int32))), (.int (0 : Int32)), (.ref b57), (.ref b52), (.ref b47)])
  refine own_go (fun _ => XS.iload X.here hx rfl (hb hby at_76) rfl) ?_
  show own_WP p e below _ T (mkF m 78 _ [(.int x7), (.int x14), (.int (((0 : Int32) + x13) &&& (3 : Int32))), (.int (0 : Int32)), (.ref b57), (.ref b52), (.ref b47)])
  refine own_go (fun _ => XS.iload X.here hx rfl (hb hby at_78) rfl) ?_
  show own_WP p e below _ T (mkF m 80 _ [(.int x8), (.int x7), (.int x14), (.int (((0 : Int32) + x13) &&& (3 : Int32))), (.int (0 : Int32)), (.ref b57), (.ref b52), (.ref b47)])
  refine own_go (fun _ => XS.iload X.here hx rfl (hb hby at_80) rfl) ?_
  show own_WP p e below _ T (mkF m 82 _ [(.int x9), (.int x8), (.int x7), (.int x14), (.int (((0 : Int32) + x13) &&& (3 : Int32))), (.int (0 : Int32)), (.ref b57), (.ref b52), (.ref b47)])
  refine own_go (fun _ => XS.iload X.here hx rfl (hb hby at_82) rfl) ?_
  show own_WP p e below _ T (mkF m 84 #[.val (.int x0), .val (.int x1), .val (.int x2), .val (.int x3), .val (.long x4), .second, .val (.int x6), .val (.int x7), .val (.int x8), .val (.int x9), .val (.int x10), .val (.long x11), .second, .val (.int x13), .val (.int x14), .val (.ref b47), .val (.ref b52), .val (.ref b57), .unset, .unset, .unset, .unset, .unset, .unset, .unset, .unset, .unset, .unset, .unset, .unset, .unset, .unset, .unset, .unset, .unset, .unset, .unset] [(.int x10), (.int x9), (.int x8), (.int x7), (.int x14), (.int (((0 : Int32) + x13) &&& (3 : Int32))), (.int (0 : Int32)), (.ref b57), (.ref b52), (.ref b47)])
  obtain ⟨rr4, hf4, hv⟩ := own_bind hv
  obtain ⟨T4, v4, L4, X4, ⟨N4, K4, Q4⟩, st4⟩ := own_callS X C (argsL := [(.ref b47), (.ref b52), (.ref b57), (.int (0 : Int32)), (.int (((0 : Int32) + x13) &&& (3 : Int32))), (.int x14), (.int x7), (.int x8), (.int x9), (.int x10)]) (rm1 l Z a0 hw n0 h (by have q := K.1; omega) (by omega) (by omega) (by omega) V_b47 V_b52 V_b57 (0 : Int32) (((0 : Int32) + x13) &&& (3 : Int32)) x14 x7 x8 x9 x10 rr4 hf4) (hw _ (List.mem_of_getElem? (i := 3) rfl)) (hw _ (List.mem_of_getElem? (i := 4) rfl)) (hw _ (List.mem_of_getElem? (i := 5) rfl)) (hw _ (List.mem_of_getElem? (i := 6) rfl)) (by decide) e0 (W := 0) (pc := 84) (Ls := #[.val (.int x0), .val (.int x1), .val (.int x2), .val (.int x3), .val (.long x4), .second, .val (.int x6), .val (.int x7), .val (.int x8), .val (.int x9), .val (.int x10), .val (.long x11), .second, .val (.int x13), .val (.int x14), .val (.ref b47), .val (.ref b52), .val (.ref b57), .unset, .unset, .unset, .unset, .unset, .unset, .unset, .unset, .unset, .unset, .unset, .unset, .unset, .unset, .unset, .unset, .unset, .unset, .unset]) rfl (lenOf pd1 rfl) (rest := []) (stk := [(.int x10), (.int x9), (.int x8), (.int x7), (.int x14), (.int (((0 : Int32) + x13) &&& (3 : Int32))), (.int (0 : Int32)), (.ref b57), (.ref b52), (.ref b47)]) rfl (Nat.le_of_ble_eq_true rfl) (hb hby at_84) (by decide) (by decide) (by decide) (by decide)
  replace N := Fr.app N N4
  clear V_b47
  clear V_b52
  clear V_b57
  obtain ⟨rfl, V_b47, V_b52, V_b57⟩ := Q4
  replace K := K.trans K4 (allS (Or.inr (by omega)) (allS (Or.inr (by omega)) (allS (Or.inr (by omega)) all0)))
  refine own_go st4 ?_
  clear st4 N4 K4 hf4 X e0
  show own_WP p e below _ T4 (mkF m 87 _ [])
  refine own_go (fun _ => XS.aload X4.here hx rfl (hb hby at_87) rfl rfl) ?_
  show own_WP p e below _ T4 (mkF m 89 _ [(.ref b47)])
  refine own_go (fun _ => XS.aload X4.here hx rfl (hb hby at_89) rfl rfl) ?_
  show own_WP p e below _ T4 (mkF m 91 _ [(.ref b52), (.ref b47)])
  refine own_go (fun _ => XS.aload X4.here hx rfl (hb hby at_91) rfl rfl) ?_
  show own_WP p e below _ T4 (mkF m 93 _ [(.ref b57), (.ref b52), (.ref b47)])
  refine own_go (fun _ => XS.iconst X4.here hx rfl (hb hby at_93)) ?_
  show own_WP p e below _ T4 (mkF m 94 _ [(.int (1 : Int32)), (.ref b57), (.ref b52), (.ref b47)])
  refine own_go (fun _ => XS.iconst X4.here hx rfl (hb hby at_94)) ?_
  show own_WP p e below _ T4 (mkF m 95 _ [(.int (1 : Int32)), (.int (1 : Int32)), (.ref b57), (.ref b52), (.ref b47)])
  refine own_go (fun _ => XS.iload X4.here hx rfl (hb hby at_95) rfl) ?_
  show own_WP p e below _ T4 (mkF m 97 _ [(.int x13), (.int (1 : Int32)), (.int (1 : Int32)), (.ref b57), (.ref b52), (.ref b47)])
  refine own_go (fun _ => XS.iadd X4.here hx rfl (hb hby at_97) rfl) ?_
  show own_WP p e below _ T4 (mkF m 98 #[.val (.int x0), .val (.int x1), .val (.int x2), .val (.int x3), .val (.long x4), .second, .val (.int x6), .val (.int x7), .val (.int x8), .val (.int x9), .val (.int x10), .val (.long x11), .second, .val (.int x13), .val (.int x14), .val (.ref b47), .val (.ref b52), .val (.ref b57), .unset, .unset, .unset, .unset, .unset, .unset, .unset, .unset, .unset, .unset, .unset, .unset, .unset, .unset, .unset, .unset, .unset, .unset, .unset] [(.int ((1 : Int32) + x13)), (.int (1 : Int32)), (.ref b57), (.ref b52), (.ref b47)])
  refine own_go (fun _ => XS.iconst X4.here hx rfl (hb hby at_98)) ?_
  show own_WP p e below _ T4 (mkF m 99 _ [(.int (3 : Int32)), (.int ((1 : Int32) + x13)), (.int (1 : Int32)), (.ref b57), (.ref b52), (.ref b47)])
  refine own_go (fun _ => XS.iand X4.here hx rfl (hb hby at_99) rfl) ?_
  show own_WP p e below _ T4 (mkF m 100 _ [(.int (((1 : Int32) + x13) &&& (3 : Int32))), (.int (1 : Int32)), (.ref b57), (.ref b52), (.ref b47)])
  refine own_go (fun _ => XS.iload X4.here hx rfl (hb hby at_100) rfl) ?_
  show own_WP p e below _ T4 (mkF m 102 _ [(.int x14), (.int (((1 : Int32) + x13) &&& (3 : Int32))), (.int (1 : Int32)), (.ref b57), (.ref b52), (.ref b47)])
  refine own_go (fun _ => XS.iload X4.here hx rfl (hb hby at_102) rfl) ?_
  show own_WP p e below _ T4 (mkF m 104 _ [(.int x7), (.int x14), (.int (((1 : Int32) + x13) &&& (3 : Int32))), (.int (1 : Int32)), (.ref b57), (.ref b52), (.ref b47)])
  refine own_go (fun _ => XS.iload X4.here hx rfl (hb hby at_104) rfl) ?_
  show own_WP p e below _ T4 (mkF m 106 _ [(.int x8), (.int x7), (.int x14), (.int (((1 : Int32) + x13) &&& (3 : Int32))), (.int (1 : Int32)), (.ref b57), (.ref b52), (.ref b47)])
  refine own_go (fun _ => XS.iload X4.here hx rfl (hb hby at_106) rfl) ?_
  show own_WP p e below _ T4 (mkF m 108 _ [(.int x9), (.int x8), (.int x7), (.int x14), (.int (((1 : Int32) + x13) &&& (3 : Int32))), (.int (1 : Int32)), (.ref b57), (.ref b52), (.ref b47)])
  refine own_go (fun _ => XS.iload X4.here hx rfl (hb hby at_108) rfl) ?_
  show own_WP p e below _ T4 (mkF m 110 #[.val (.int x0), .val (.int x1), .val (.int x2), .val (.int x3), .val (.long x4), .second, .val (.int x6), .val (.int x7), .val (.int x8), .val (.int x9), .val (.int x10), .val (.long x11), .second, .val (.int x13), .val (.int x14), .val (.ref b47), .val (.ref b52), .val (.ref b57), .unset, .unset, .unset, .unset, .unset, .unset, .unset, .unset, .unset, .unset, .unset, .unset, .unset, .unset, .unset, .unset, .unset, .unset, .unset] [(.int x10), (.int x9), (.int x8), (.int x7), (.int x14), (.int (((1 : Int32) + x13) &&& (3 : Int32))), (.int (1 : Int32)), (.ref b57), (.ref b52), (.ref b47)])
  obtain ⟨rr5, hf5, hv⟩ := own_bind hv
  obtain ⟨T5, v5, L5, X5, ⟨N5, K5, Q5⟩, st5⟩ := own_callS X4 C (argsL := [(.ref b47), (.ref b52), (.ref b57), (.int (1 : Int32)), (.int (((1 : Int32) + x13) &&& (3 : Int32))), (.int x14), (.int x7), (.int x8), (.int x9), (.int x10)]) (rm1 l Z a0 hw n0 T4.heap (by have q := K.1; omega) (by omega) (by omega) (by omega) V_b47 V_b52 V_b57 (1 : Int32) (((1 : Int32) + x13) &&& (3 : Int32)) x14 x7 x8 x9 x10 rr5 hf5) (hw _ (List.mem_of_getElem? (i := 3) rfl)) (hw _ (List.mem_of_getElem? (i := 4) rfl)) (hw _ (List.mem_of_getElem? (i := 5) rfl)) (hw _ (List.mem_of_getElem? (i := 6) rfl)) (by decide) (rfl : T4.heap = T4.heap) (W := 0) (pc := 110) (Ls := #[.val (.int x0), .val (.int x1), .val (.int x2), .val (.int x3), .val (.long x4), .second, .val (.int x6), .val (.int x7), .val (.int x8), .val (.int x9), .val (.int x10), .val (.long x11), .second, .val (.int x13), .val (.int x14), .val (.ref b47), .val (.ref b52), .val (.ref b57), .unset, .unset, .unset, .unset, .unset, .unset, .unset, .unset, .unset, .unset, .unset, .unset, .unset, .unset, .unset, .unset, .unset, .unset, .unset]) rfl (lenOf pd1 rfl) (rest := []) (stk := [(.int x10), (.int x9), (.int x8), (.int x7), (.int x14), (.int (((1 : Int32) + x13) &&& (3 : Int32))), (.int (1 : Int32)), (.ref b57), (.ref b52), (.ref b47)]) rfl (Nat.le_of_ble_eq_true rfl) (hb hby at_110) (by decide) (by decide) (by decide) (by decide)
  replace N := Fr.app N N5
  clear V_b47
  clear V_b52
  clear V_b57
  obtain ⟨rfl, V_b47, V_b52, V_b57⟩ := Q5
  replace K := K.trans K5 (allS (Or.inr (by omega)) (allS (Or.inr (by omega)) (allS (Or.inr (by omega)) all0)))
  refine own_go st5 ?_
  clear st5 N5 K5 hf5 X4
  exact b0_113 hw C Z0 rr hP X5 (rfl : T5.heap = T5.heap) N K o_b47_b52 o_b52_b57 g_b47 z_b47 V_b47 V_b52 V_b57 x0 x1 x2 x3 x4 x6 x7 x8 x9 x10 x11 x13 x14 hv
def f0_0 (x0 : Int32) (x1 : Int32) (x2 : Int32) (x3 : Int32) (x4 : Int64) (x6 : Int32) : Option (Int32) := (f0_61 [0, 0, 0, 0] [0, 0, 0, 0] [0, 0, 0, 0] (x0 &&& (2147483647 : Int32)) (x1 &&& (2147483647 : Int32)) (x2 &&& (2147483647 : Int32)) (x3 &&& (2147483647 : Int32)) (x4 &&& (9223372036854775807 : Int64)) (x6 &&& (3 : Int32)) ((XT.ushr x6 (2 : Int32)) % (3 : Int32)))
set_option maxRecDepth 65536 in
set_option maxHeartbeats 40000000 in
theorem b0_0 {p : Program} {l : Launch} {e : Env} {s : State} {m : MethodId} {args : Array Value} {below : List Frame} {meth : Method} {c : Code} {Z : State} {a0 : Array Value} {h0 : Heap} {n0 : Nat} {P : Option Value → Heap → List Loc → Prop} (hw : ∀ d ∈ tables_1, d.before a0 Z = true) (C : own_Ctx p s m meth c Z x code maxLocals ret) (Z0 : n0 ≤ h0.size)   (rr : Int32) (hP : ∀ v h L, Fr n0 L → Keep h0 h [] → E0 Z h0  rr v h → P v h L)
    {T : State} {locs : List Loc} {h : Heap} (X : Stand p l e room_1 s m args below meth c T locs 0 0) (e0 : T.heap = h) (N : Fr n0 locs) (K : Keep h0 h []) (x0 : Int32) (x1 : Int32) (x2 : Int32) (x3 : Int32) (x4 : Int64) (x6 : Int32) (hv : f0_0 x0 x1 x2 x3 x4 x6 = some rr) :
    own_WP p e below (own_Q s P room_1.cells room_1.slots) T (mkF m 0 #[.val (.int x0), .val (.int x1), .val (.int x2), .val (.int x3), .val (.long x4), .second, .val (.int x6), .unset, .unset, .unset, .unset, .unset, .unset, .unset, .unset, .unset, .unset, .unset, .unset, .unset, .unset, .unset, .unset, .unset, .unset, .unset, .unset, .unset, .unset, .unset, .unset, .unset, .unset, .unset, .unset, .unset, .unset] []) := by
  obtain ⟨hx, hZ, hby, hml, hown, hnm, hret, hlk⟩ := id C
  replace hown : s.vm.findClass "com/example/gridfare/gridfare/engine/ResidualNetworkFlowsPinLaw" = some m.cls := hown
  unfold f0_0 at hv
  show own_WP p e below _ T (mkF m 0 #[.val (.int x0), .val (.int x1), .val (.int x2), .val (.int x3), .val (.long x4), .second, .val (.int x6), .unset, .unset, .unset, .unset, .unset, .unset, .unset, .unset, .unset, .unset, .unset, .unset, .unset, .unset, .unset, .unset, .unset, .unset, .unset, .unset, .unset, .unset, .unset, .unset, .unset, .unset, .unset, .unset, .unset, .unset] [])
  refine own_go (fun _ => XS.iloadN X.here hx rfl (hb hby at_0) rfl) ?_
  show own_WP p e below _ T (mkF m 1 #[.val (.int x0), .val (.int x1), .val (.int x2), .val (.int x3), .val (.long x4), .second, .val (.int x6), .unset, .unset, .unset, .unset, .unset, .unset, .unset, .unset, .unset, .unset, .unset, .unset, .unset, .unset, .unset, .unset, .unset, .unset, .unset, .unset, .unset, .unset, .unset, .unset, .unset, .unset, .unset, .unset, .unset, .unset] [(.int x0)])
  refine own_go (X.ldcInt hx hown (mvT hZ (hw _ (List.mem_of_getElem? (i := 0) rfl))) (g := (mkF m 1 #[.val (.int x0), .val (.int x1), .val (.int x2), .val (.int x3), .val (.long x4), .second, .val (.int x6), .unset, .unset, .unset, .unset, .unset, .unset, .unset, .unset, .unset, .unset, .unset, .unset, .unset, .unset, .unset, .unset, .unset, .unset, .unset, .unset, .unset, .unset, .unset, .unset, .unset, .unset, .unset, .unset, .unset, .unset] [(.int x0)])) rfl (hb hby at_1)) ?_
  show own_WP p e below _ T (mkF m 3 _ [(.int (2147483647 : Int32)), (.int x0)])
  refine own_go (fun _ => XS.iand X.here hx rfl (hb hby at_3) rfl) ?_
  show own_WP p e below _ T (mkF m 4 #[.val (.int x0), .val (.int x1), .val (.int x2), .val (.int x3), .val (.long x4), .second, .val (.int x6), .unset, .unset, .unset, .unset, .unset, .unset, .unset, .unset, .unset, .unset, .unset, .unset, .unset, .unset, .unset, .unset, .unset, .unset, .unset, .unset, .unset, .unset, .unset, .unset, .unset, .unset, .unset, .unset, .unset, .unset] [(.int (x0 &&& (2147483647 : Int32)))])
  refine own_go (fun _ => XS.istore X.here hx rfl (hb hby at_4) rfl rfl) ?_
  show own_WP p e below _ T (mkF m 6 #[.val (.int x0), .val (.int x1), .val (.int x2), .val (.int x3), .val (.long x4), .second, .val (.int x6), .val (.int (x0 &&& (2147483647 : Int32))), .unset, .unset, .unset, .unset, .unset, .unset, .unset, .unset, .unset, .unset, .unset, .unset, .unset, .unset, .unset, .unset, .unset, .unset, .unset, .unset, .unset, .unset, .unset, .unset, .unset, .unset, .unset, .unset, .unset] [])
  refine own_go (fun _ => XS.iloadN X.here hx rfl (hb hby at_6) rfl) ?_
  show own_WP p e below _ T (mkF m 7 #[.val (.int x0), .val (.int x1), .val (.int x2), .val (.int x3), .val (.long x4), .second, .val (.int x6), .val (.int (x0 &&& (2147483647 : Int32))), .unset, .unset, .unset, .unset, .unset, .unset, .unset, .unset, .unset, .unset, .unset, .unset, .unset, .unset, .unset, .unset, .unset, .unset, .unset, .unset, .unset, .unset, .unset, .unset, .unset, .unset, .unset, .unset, .unset] [(.int x1)])
  refine own_go (X.ldcInt hx hown (mvT hZ (hw _ (List.mem_of_getElem? (i := 0) rfl))) (g := (mkF m 7 #[.val (.int x0), .val (.int x1), .val (.int x2), .val (.int x3), .val (.long x4), .second, .val (.int x6), .val (.int (x0 &&& (2147483647 : Int32))), .unset, .unset, .unset, .unset, .unset, .unset, .unset, .unset, .unset, .unset, .unset, .unset, .unset, .unset, .unset, .unset, .unset, .unset, .unset, .unset, .unset, .unset, .unset, .unset, .unset, .unset, .unset, .unset, .unset] [(.int x1)])) rfl (hb hby at_7)) ?_
  show own_WP p e below _ T (mkF m 9 _ [(.int (2147483647 : Int32)), (.int x1)])
  refine own_go (fun _ => XS.iand X.here hx rfl (hb hby at_9) rfl) ?_
  show own_WP p e below _ T (mkF m 10 #[.val (.int x0), .val (.int x1), .val (.int x2), .val (.int x3), .val (.long x4), .second, .val (.int x6), .val (.int (x0 &&& (2147483647 : Int32))), .unset, .unset, .unset, .unset, .unset, .unset, .unset, .unset, .unset, .unset, .unset, .unset, .unset, .unset, .unset, .unset, .unset, .unset, .unset, .unset, .unset, .unset, .unset, .unset, .unset, .unset, .unset, .unset, .unset] [(.int (x1 &&& (2147483647 : Int32)))])
  refine own_go (fun _ => XS.istore X.here hx rfl (hb hby at_10) rfl rfl) ?_
  show own_WP p e below _ T (mkF m 12 #[.val (.int x0), .val (.int x1), .val (.int x2), .val (.int x3), .val (.long x4), .second, .val (.int x6), .val (.int (x0 &&& (2147483647 : Int32))), .val (.int (x1 &&& (2147483647 : Int32))), .unset, .unset, .unset, .unset, .unset, .unset, .unset, .unset, .unset, .unset, .unset, .unset, .unset, .unset, .unset, .unset, .unset, .unset, .unset, .unset, .unset, .unset, .unset, .unset, .unset, .unset, .unset, .unset] [])
  refine own_go (fun _ => XS.iloadN X.here hx rfl (hb hby at_12) rfl) ?_
  show own_WP p e below _ T (mkF m 13 #[.val (.int x0), .val (.int x1), .val (.int x2), .val (.int x3), .val (.long x4), .second, .val (.int x6), .val (.int (x0 &&& (2147483647 : Int32))), .val (.int (x1 &&& (2147483647 : Int32))), .unset, .unset, .unset, .unset, .unset, .unset, .unset, .unset, .unset, .unset, .unset, .unset, .unset, .unset, .unset, .unset, .unset, .unset, .unset, .unset, .unset, .unset, .unset, .unset, .unset, .unset, .unset, .unset] [(.int x2)])
  refine own_go (X.ldcInt hx hown (mvT hZ (hw _ (List.mem_of_getElem? (i := 0) rfl))) (g := (mkF m 13 #[.val (.int x0), .val (.int x1), .val (.int x2), .val (.int x3), .val (.long x4), .second, .val (.int x6), .val (.int (x0 &&& (2147483647 : Int32))), .val (.int (x1 &&& (2147483647 : Int32))), .unset, .unset, .unset, .unset, .unset, .unset, .unset, .unset, .unset, .unset, .unset, .unset, .unset, .unset, .unset, .unset, .unset, .unset, .unset, .unset, .unset, .unset, .unset, .unset, .unset, .unset, .unset, .unset] [(.int x2)])) rfl (hb hby at_13)) ?_
  show own_WP p e below _ T (mkF m 15 _ [(.int (2147483647 : Int32)), (.int x2)])
  refine own_go (fun _ => XS.iand X.here hx rfl (hb hby at_15) rfl) ?_
  show own_WP p e below _ T (mkF m 16 #[.val (.int x0), .val (.int x1), .val (.int x2), .val (.int x3), .val (.long x4), .second, .val (.int x6), .val (.int (x0 &&& (2147483647 : Int32))), .val (.int (x1 &&& (2147483647 : Int32))), .unset, .unset, .unset, .unset, .unset, .unset, .unset, .unset, .unset, .unset, .unset, .unset, .unset, .unset, .unset, .unset, .unset, .unset, .unset, .unset, .unset, .unset, .unset, .unset, .unset, .unset, .unset, .unset] [(.int (x2 &&& (2147483647 : Int32)))])
  refine own_go (fun _ => XS.istore X.here hx rfl (hb hby at_16) rfl rfl) ?_
  show own_WP p e below _ T (mkF m 18 #[.val (.int x0), .val (.int x1), .val (.int x2), .val (.int x3), .val (.long x4), .second, .val (.int x6), .val (.int (x0 &&& (2147483647 : Int32))), .val (.int (x1 &&& (2147483647 : Int32))), .val (.int (x2 &&& (2147483647 : Int32))), .unset, .unset, .unset, .unset, .unset, .unset, .unset, .unset, .unset, .unset, .unset, .unset, .unset, .unset, .unset, .unset, .unset, .unset, .unset, .unset, .unset, .unset, .unset, .unset, .unset, .unset, .unset] [])
  refine own_go (fun _ => XS.iloadN X.here hx rfl (hb hby at_18) rfl) ?_
  show own_WP p e below _ T (mkF m 19 #[.val (.int x0), .val (.int x1), .val (.int x2), .val (.int x3), .val (.long x4), .second, .val (.int x6), .val (.int (x0 &&& (2147483647 : Int32))), .val (.int (x1 &&& (2147483647 : Int32))), .val (.int (x2 &&& (2147483647 : Int32))), .unset, .unset, .unset, .unset, .unset, .unset, .unset, .unset, .unset, .unset, .unset, .unset, .unset, .unset, .unset, .unset, .unset, .unset, .unset, .unset, .unset, .unset, .unset, .unset, .unset, .unset, .unset] [(.int x3)])
  refine own_go (X.ldcInt hx hown (mvT hZ (hw _ (List.mem_of_getElem? (i := 0) rfl))) (g := (mkF m 19 #[.val (.int x0), .val (.int x1), .val (.int x2), .val (.int x3), .val (.long x4), .second, .val (.int x6), .val (.int (x0 &&& (2147483647 : Int32))), .val (.int (x1 &&& (2147483647 : Int32))), .val (.int (x2 &&& (2147483647 : Int32))), .unset, .unset, .unset, .unset, .unset, .unset, .unset, .unset, .unset, .unset, .unset, .unset, .unset, .unset, .unset, .unset, .unset, .unset, .unset, .unset, .unset, .unset, .unset, .unset, .unset, .unset, .unset] [(.int x3)])) rfl (hb hby at_19)) ?_
  show own_WP p e below _ T (mkF m 21 _ [(.int (2147483647 : Int32)), (.int x3)])
  refine own_go (fun _ => XS.iand X.here hx rfl (hb hby at_21) rfl) ?_
  show own_WP p e below _ T (mkF m 22 #[.val (.int x0), .val (.int x1), .val (.int x2), .val (.int x3), .val (.long x4), .second, .val (.int x6), .val (.int (x0 &&& (2147483647 : Int32))), .val (.int (x1 &&& (2147483647 : Int32))), .val (.int (x2 &&& (2147483647 : Int32))), .unset, .unset, .unset, .unset, .unset, .unset, .unset, .unset, .unset, .unset, .unset, .unset, .unset, .unset, .unset, .unset, .unset, .unset, .unset, .unset, .unset, .unset, .unset, .unset, .unset, .unset, .unset] [(.int (x3 &&& (2147483647 : Int32)))])
  refine own_go (fun _ => XS.istore X.here hx rfl (hb hby at_22) rfl rfl) ?_
  show own_WP p e below _ T (mkF m 24 #[.val (.int x0), .val (.int x1), .val (.int x2), .val (.int x3), .val (.long x4), .second, .val (.int x6), .val (.int (x0 &&& (2147483647 : Int32))), .val (.int (x1 &&& (2147483647 : Int32))), .val (.int (x2 &&& (2147483647 : Int32))), .val (.int (x3 &&& (2147483647 : Int32))), .unset, .unset, .unset, .unset, .unset, .unset, .unset, .unset, .unset, .unset, .unset, .unset, .unset, .unset, .unset, .unset, .unset, .unset, .unset, .unset, .unset, .unset, .unset, .unset, .unset, .unset] [])
  refine own_go (fun _ => XS.lload X.here hx rfl (hb hby at_24) rfl) ?_
  show own_WP p e below _ T (mkF m 26 #[.val (.int x0), .val (.int x1), .val (.int x2), .val (.int x3), .val (.long x4), .second, .val (.int x6), .val (.int (x0 &&& (2147483647 : Int32))), .val (.int (x1 &&& (2147483647 : Int32))), .val (.int (x2 &&& (2147483647 : Int32))), .val (.int (x3 &&& (2147483647 : Int32))), .unset, .unset, .unset, .unset, .unset, .unset, .unset, .unset, .unset, .unset, .unset, .unset, .unset, .unset, .unset, .unset, .unset, .unset, .unset, .unset, .unset, .unset, .unset, .unset, .unset, .unset] [(.long x4)])
  refine own_go (X.ldc2Long hx hown (mvT hZ (hw _ (List.mem_of_getElem? (i := 1) rfl))) (g := (mkF m 26 #[.val (.int x0), .val (.int x1), .val (.int x2), .val (.int x3), .val (.long x4), .second, .val (.int x6), .val (.int (x0 &&& (2147483647 : Int32))), .val (.int (x1 &&& (2147483647 : Int32))), .val (.int (x2 &&& (2147483647 : Int32))), .val (.int (x3 &&& (2147483647 : Int32))), .unset, .unset, .unset, .unset, .unset, .unset, .unset, .unset, .unset, .unset, .unset, .unset, .unset, .unset, .unset, .unset, .unset, .unset, .unset, .unset, .unset, .unset, .unset, .unset, .unset, .unset] [(.long x4)])) rfl (hb hby at_26)) ?_
  show own_WP p e below _ T (mkF m 29 _ [(.long (9223372036854775807 : Int64)), (.long x4)])
  refine own_go (fun _ => XS.land X.here hx rfl (hb hby at_29) rfl) ?_
  show own_WP p e below _ T (mkF m 30 #[.val (.int x0), .val (.int x1), .val (.int x2), .val (.int x3), .val (.long x4), .second, .val (.int x6), .val (.int (x0 &&& (2147483647 : Int32))), .val (.int (x1 &&& (2147483647 : Int32))), .val (.int (x2 &&& (2147483647 : Int32))), .val (.int (x3 &&& (2147483647 : Int32))), .unset, .unset, .unset, .unset, .unset, .unset, .unset, .unset, .unset, .unset, .unset, .unset, .unset, .unset, .unset, .unset, .unset, .unset, .unset, .unset, .unset, .unset, .unset, .unset, .unset, .unset] [(.long (x4 &&& (9223372036854775807 : Int64)))])
  refine own_go (fun _ => XS.lstore X.here hx rfl (hb hby at_30) rfl rfl) ?_
  show own_WP p e below _ T (mkF m 32 #[.val (.int x0), .val (.int x1), .val (.int x2), .val (.int x3), .val (.long x4), .second, .val (.int x6), .val (.int (x0 &&& (2147483647 : Int32))), .val (.int (x1 &&& (2147483647 : Int32))), .val (.int (x2 &&& (2147483647 : Int32))), .val (.int (x3 &&& (2147483647 : Int32))), .val (.long (x4 &&& (9223372036854775807 : Int64))), .second, .unset, .unset, .unset, .unset, .unset, .unset, .unset, .unset, .unset, .unset, .unset, .unset, .unset, .unset, .unset, .unset, .unset, .unset, .unset, .unset, .unset, .unset, .unset, .unset] [])
  refine own_go (fun _ => XS.iload X.here hx rfl (hb hby at_32) rfl) ?_
  show own_WP p e below _ T (mkF m 34 _ [(.int x6)])
  refine own_go (fun _ => XS.iconst X.here hx rfl (hb hby at_34)) ?_
  show own_WP p e below _ T (mkF m 35 _ [(.int (3 : Int32)), (.int x6)])
  refine own_go (fun _ => XS.iand X.here hx rfl (hb hby at_35) rfl) ?_
  show own_WP p e below _ T (mkF m 36 #[.val (.int x0), .val (.int x1), .val (.int x2), .val (.int x3), .val (.long x4), .second, .val (.int x6), .val (.int (x0 &&& (2147483647 : Int32))), .val (.int (x1 &&& (2147483647 : Int32))), .val (.int (x2 &&& (2147483647 : Int32))), .val (.int (x3 &&& (2147483647 : Int32))), .val (.long (x4 &&& (9223372036854775807 : Int64))), .second, .unset, .unset, .unset, .unset, .unset, .unset, .unset, .unset, .unset, .unset, .unset, .unset, .unset, .unset, .unset, .unset, .unset, .unset, .unset, .unset, .unset, .unset, .unset, .unset] [(.int (x6 &&& (3 : Int32)))])
  refine own_go (fun _ => XS.istore X.here hx rfl (hb hby at_36) rfl rfl) ?_
  show own_WP p e below _ T (mkF m 38 #[.val (.int x0), .val (.int x1), .val (.int x2), .val (.int x3), .val (.long x4), .second, .val (.int x6), .val (.int (x0 &&& (2147483647 : Int32))), .val (.int (x1 &&& (2147483647 : Int32))), .val (.int (x2 &&& (2147483647 : Int32))), .val (.int (x3 &&& (2147483647 : Int32))), .val (.long (x4 &&& (9223372036854775807 : Int64))), .second, .val (.int (x6 &&& (3 : Int32))), .unset, .unset, .unset, .unset, .unset, .unset, .unset, .unset, .unset, .unset, .unset, .unset, .unset, .unset, .unset, .unset, .unset, .unset, .unset, .unset, .unset, .unset, .unset] [])
  refine own_go (fun _ => XS.iload X.here hx rfl (hb hby at_38) rfl) ?_
  show own_WP p e below _ T (mkF m 40 _ [(.int x6)])
  refine own_go (fun _ => XS.iconst X.here hx rfl (hb hby at_40)) ?_
  show own_WP p e below _ T (mkF m 41 #[.val (.int x0), .val (.int x1), .val (.int x2), .val (.int x3), .val (.long x4), .second, .val (.int x6), .val (.int (x0 &&& (2147483647 : Int32))), .val (.int (x1 &&& (2147483647 : Int32))), .val (.int (x2 &&& (2147483647 : Int32))), .val (.int (x3 &&& (2147483647 : Int32))), .val (.long (x4 &&& (9223372036854775807 : Int64))), .second, .val (.int (x6 &&& (3 : Int32))), .unset, .unset, .unset, .unset, .unset, .unset, .unset, .unset, .unset, .unset, .unset, .unset, .unset, .unset, .unset, .unset, .unset, .unset, .unset, .unset, .unset, .unset, .unset] [(.int (2 : Int32)), (.int x6)])
  refine own_go (fun _ => XT.iushr X.here hx rfl (hb hby at_41) rfl) ?_
  show own_WP p e below _ T (mkF m 42 _ [(.int (XT.ushr x6 (2 : Int32)))])
  refine own_go (fun _ => XS.iconst X.here hx rfl (hb hby at_42)) ?_
  show own_WP p e below _ T (mkF m 43 #[.val (.int x0), .val (.int x1), .val (.int x2), .val (.int x3), .val (.long x4), .second, .val (.int x6), .val (.int (x0 &&& (2147483647 : Int32))), .val (.int (x1 &&& (2147483647 : Int32))), .val (.int (x2 &&& (2147483647 : Int32))), .val (.int (x3 &&& (2147483647 : Int32))), .val (.long (x4 &&& (9223372036854775807 : Int64))), .second, .val (.int (x6 &&& (3 : Int32))), .unset, .unset, .unset, .unset, .unset, .unset, .unset, .unset, .unset, .unset, .unset, .unset, .unset, .unset, .unset, .unset, .unset, .unset, .unset, .unset, .unset, .unset, .unset] [(.int (3 : Int32)), (.int (XT.ushr x6 (2 : Int32)))])
  refine own_go (fun _ => iremM X hx rfl (hb hby at_43) rfl (by decide)) ?_
  show own_WP p e below _ T (mkF m 44 #[.val (.int x0), .val (.int x1), .val (.int x2), .val (.int x3), .val (.long x4), .second, .val (.int x6), .val (.int (x0 &&& (2147483647 : Int32))), .val (.int (x1 &&& (2147483647 : Int32))), .val (.int (x2 &&& (2147483647 : Int32))), .val (.int (x3 &&& (2147483647 : Int32))), .val (.long (x4 &&& (9223372036854775807 : Int64))), .second, .val (.int (x6 &&& (3 : Int32))), .unset, .unset, .unset, .unset, .unset, .unset, .unset, .unset, .unset, .unset, .unset, .unset, .unset, .unset, .unset, .unset, .unset, .unset, .unset, .unset, .unset, .unset, .unset] [(.int ((XT.ushr x6 (2 : Int32)) % (3 : Int32)))])
  refine own_go (fun _ => XS.istore X.here hx rfl (hb hby at_44) rfl rfl) ?_
  show own_WP p e below _ T (mkF m 46 #[.val (.int x0), .val (.int x1), .val (.int x2), .val (.int x3), .val (.long x4), .second, .val (.int x6), .val (.int (x0 &&& (2147483647 : Int32))), .val (.int (x1 &&& (2147483647 : Int32))), .val (.int (x2 &&& (2147483647 : Int32))), .val (.int (x3 &&& (2147483647 : Int32))), .val (.long (x4 &&& (9223372036854775807 : Int64))), .second, .val (.int (x6 &&& (3 : Int32))), .val (.int ((XT.ushr x6 (2 : Int32)) % (3 : Int32))), .unset, .unset, .unset, .unset, .unset, .unset, .unset, .unset, .unset, .unset, .unset, .unset, .unset, .unset, .unset, .unset, .unset, .unset, .unset, .unset, .unset, .unset] [])
  refine own_go (fun _ => XS.iconst X.here hx rfl (hb hby at_46)) ?_
  show own_WP p e below _ T (mkF m 47 #[.val (.int x0), .val (.int x1), .val (.int x2), .val (.int x3), .val (.long x4), .second, .val (.int x6), .val (.int (x0 &&& (2147483647 : Int32))), .val (.int (x1 &&& (2147483647 : Int32))), .val (.int (x2 &&& (2147483647 : Int32))), .val (.int (x3 &&& (2147483647 : Int32))), .val (.long (x4 &&& (9223372036854775807 : Int64))), .second, .val (.int (x6 &&& (3 : Int32))), .val (.int ((XT.ushr x6 (2 : Int32)) % (3 : Int32))), .unset, .unset, .unset, .unset, .unset, .unset, .unset, .unset, .unset, .unset, .unset, .unset, .unset, .unset, .unset, .unset, .unset, .unset, .unset, .unset, .unset, .unset] [(.int (4 : Int32))])
  obtain ⟨T1, h1, b47, X1, e1, E1, hb_b47, V_b47, st1⟩ := own_newI X C e0 (aty := .int) (ty := .int) rfl rfl rfl (hw _ (List.mem_of_getElem? (i := 2) rfl)) (n := (4 : Int32)) (by decide) (cap := 4) (by decide) (by decide) (by decide) (by decide) (pc := 47) (Ls := #[.val (.int x0), .val (.int x1), .val (.int x2), .val (.int x3), .val (.long x4), .second, .val (.int x6), .val (.int (x0 &&& (2147483647 : Int32))), .val (.int (x1 &&& (2147483647 : Int32))), .val (.int (x2 &&& (2147483647 : Int32))), .val (.int (x3 &&& (2147483647 : Int32))), .val (.long (x4 &&& (9223372036854775807 : Int64))), .second, .val (.int (x6 &&& (3 : Int32))), .val (.int ((XT.ushr x6 (2 : Int32)) % (3 : Int32))), .unset, .unset, .unset, .unset, .unset, .unset, .unset, .unset, .unset, .unset, .unset, .unset, .unset, .unset, .unset, .unset, .unset, .unset, .unset, .unset, .unset, .unset]) (rest := []) (hb hby at_47)
  refine own_go st1 ?_
  have g_b47 : n0 ≤ b47 := by have q := K.1; omega
  have z_b47 : h0.size ≤ b47 := by have q := K.1; omega
  replace K := K.ext E1
  replace V_b47 : own_AI Z h1 b47 .int [0, 0, 0, 0] := V_b47
  clear st1 E1 hb_b47 X e0
  show own_WP p e below _ T1 (mkF m 49 #[.val (.int x0), .val (.int x1), .val (.int x2), .val (.int x3), .val (.long x4), .second, .val (.int x6), .val (.int (x0 &&& (2147483647 : Int32))), .val (.int (x1 &&& (2147483647 : Int32))), .val (.int (x2 &&& (2147483647 : Int32))), .val (.int (x3 &&& (2147483647 : Int32))), .val (.long (x4 &&& (9223372036854775807 : Int64))), .second, .val (.int (x6 &&& (3 : Int32))), .val (.int ((XT.ushr x6 (2 : Int32)) % (3 : Int32))), .unset, .unset, .unset, .unset, .unset, .unset, .unset, .unset, .unset, .unset, .unset, .unset, .unset, .unset, .unset, .unset, .unset, .unset, .unset, .unset, .unset, .unset] [(.ref b47)])
  refine own_go (fun _ => XS.astore X1.here hx rfl (hb hby at_49) rfl rfl rfl) ?_
  show own_WP p e below _ T1 (mkF m 51 #[.val (.int x0), .val (.int x1), .val (.int x2), .val (.int x3), .val (.long x4), .second, .val (.int x6), .val (.int (x0 &&& (2147483647 : Int32))), .val (.int (x1 &&& (2147483647 : Int32))), .val (.int (x2 &&& (2147483647 : Int32))), .val (.int (x3 &&& (2147483647 : Int32))), .val (.long (x4 &&& (9223372036854775807 : Int64))), .second, .val (.int (x6 &&& (3 : Int32))), .val (.int ((XT.ushr x6 (2 : Int32)) % (3 : Int32))), .val (.ref b47), .unset, .unset, .unset, .unset, .unset, .unset, .unset, .unset, .unset, .unset, .unset, .unset, .unset, .unset, .unset, .unset, .unset, .unset, .unset, .unset, .unset] [])
  refine own_go (fun _ => XS.iconst X1.here hx rfl (hb hby at_51)) ?_
  show own_WP p e below _ T1 (mkF m 52 #[.val (.int x0), .val (.int x1), .val (.int x2), .val (.int x3), .val (.long x4), .second, .val (.int x6), .val (.int (x0 &&& (2147483647 : Int32))), .val (.int (x1 &&& (2147483647 : Int32))), .val (.int (x2 &&& (2147483647 : Int32))), .val (.int (x3 &&& (2147483647 : Int32))), .val (.long (x4 &&& (9223372036854775807 : Int64))), .second, .val (.int (x6 &&& (3 : Int32))), .val (.int ((XT.ushr x6 (2 : Int32)) % (3 : Int32))), .val (.ref b47), .unset, .unset, .unset, .unset, .unset, .unset, .unset, .unset, .unset, .unset, .unset, .unset, .unset, .unset, .unset, .unset, .unset, .unset, .unset, .unset, .unset] [(.int (4 : Int32))])
  obtain ⟨T2, h2, b52, X2, e2, E2, hb_b52, V_b52, st2⟩ := own_newI X1 C e1 (aty := .int) (ty := .int) rfl rfl rfl (hw _ (List.mem_of_getElem? (i := 2) rfl)) (n := (4 : Int32)) (by decide) (cap := 4) (by decide) (by decide) (by decide) (by decide) (pc := 52) (Ls := #[.val (.int x0), .val (.int x1), .val (.int x2), .val (.int x3), .val (.long x4), .second, .val (.int x6), .val (.int (x0 &&& (2147483647 : Int32))), .val (.int (x1 &&& (2147483647 : Int32))), .val (.int (x2 &&& (2147483647 : Int32))), .val (.int (x3 &&& (2147483647 : Int32))), .val (.long (x4 &&& (9223372036854775807 : Int64))), .second, .val (.int (x6 &&& (3 : Int32))), .val (.int ((XT.ushr x6 (2 : Int32)) % (3 : Int32))), .val (.ref b47), .unset, .unset, .unset, .unset, .unset, .unset, .unset, .unset, .unset, .unset, .unset, .unset, .unset, .unset, .unset, .unset, .unset, .unset, .unset, .unset, .unset]) (rest := []) (hb hby at_52)
  refine own_go st2 ?_
  have o_b47_b52 : b47 < b52 := by have q : b47 < h1.size := V_b47.lt; omega
  replace V_b47 := V_b47.ext E2
  replace K := K.ext E2
  replace V_b52 : own_AI Z h2 b52 .int [0, 0, 0, 0] := V_b52
  clear st2 E2 hb_b52 X1 e1
  show own_WP p e below _ T2 (mkF m 54 #[.val (.int x0), .val (.int x1), .val (.int x2), .val (.int x3), .val (.long x4), .second, .val (.int x6), .val (.int (x0 &&& (2147483647 : Int32))), .val (.int (x1 &&& (2147483647 : Int32))), .val (.int (x2 &&& (2147483647 : Int32))), .val (.int (x3 &&& (2147483647 : Int32))), .val (.long (x4 &&& (9223372036854775807 : Int64))), .second, .val (.int (x6 &&& (3 : Int32))), .val (.int ((XT.ushr x6 (2 : Int32)) % (3 : Int32))), .val (.ref b47), .unset, .unset, .unset, .unset, .unset, .unset, .unset, .unset, .unset, .unset, .unset, .unset, .unset, .unset, .unset, .unset, .unset, .unset, .unset, .unset, .unset] [(.ref b52)])
  refine own_go (fun _ => XS.astore X2.here hx rfl (hb hby at_54) rfl rfl rfl) ?_
  show own_WP p e below _ T2 (mkF m 56 #[.val (.int x0), .val (.int x1), .val (.int x2), .val (.int x3), .val (.long x4), .second, .val (.int x6), .val (.int (x0 &&& (2147483647 : Int32))), .val (.int (x1 &&& (2147483647 : Int32))), .val (.int (x2 &&& (2147483647 : Int32))), .val (.int (x3 &&& (2147483647 : Int32))), .val (.long (x4 &&& (9223372036854775807 : Int64))), .second, .val (.int (x6 &&& (3 : Int32))), .val (.int ((XT.ushr x6 (2 : Int32)) % (3 : Int32))), .val (.ref b47), .val (.ref b52), .unset, .unset, .unset, .unset, .unset, .unset, .unset, .unset, .unset, .unset, .unset, .unset, .unset, .unset, .unset, .unset, .unset, .unset, .unset, .unset] [])
  refine own_go (fun _ => XS.iconst X2.here hx rfl (hb hby at_56)) ?_
  show own_WP p e below _ T2 (mkF m 57 #[.val (.int x0), .val (.int x1), .val (.int x2), .val (.int x3), .val (.long x4), .second, .val (.int x6), .val (.int (x0 &&& (2147483647 : Int32))), .val (.int (x1 &&& (2147483647 : Int32))), .val (.int (x2 &&& (2147483647 : Int32))), .val (.int (x3 &&& (2147483647 : Int32))), .val (.long (x4 &&& (9223372036854775807 : Int64))), .second, .val (.int (x6 &&& (3 : Int32))), .val (.int ((XT.ushr x6 (2 : Int32)) % (3 : Int32))), .val (.ref b47), .val (.ref b52), .unset, .unset, .unset, .unset, .unset, .unset, .unset, .unset, .unset, .unset, .unset, .unset, .unset, .unset, .unset, .unset, .unset, .unset, .unset, .unset] [(.int (4 : Int32))])
  obtain ⟨T3, h3, b57, X3, e3, E3, hb_b57, V_b57, st3⟩ := own_newI X2 C e2 (aty := .int) (ty := .int) rfl rfl rfl (hw _ (List.mem_of_getElem? (i := 2) rfl)) (n := (4 : Int32)) (by decide) (cap := 4) (by decide) (by decide) (by decide) (by decide) (pc := 57) (Ls := #[.val (.int x0), .val (.int x1), .val (.int x2), .val (.int x3), .val (.long x4), .second, .val (.int x6), .val (.int (x0 &&& (2147483647 : Int32))), .val (.int (x1 &&& (2147483647 : Int32))), .val (.int (x2 &&& (2147483647 : Int32))), .val (.int (x3 &&& (2147483647 : Int32))), .val (.long (x4 &&& (9223372036854775807 : Int64))), .second, .val (.int (x6 &&& (3 : Int32))), .val (.int ((XT.ushr x6 (2 : Int32)) % (3 : Int32))), .val (.ref b47), .val (.ref b52), .unset, .unset, .unset, .unset, .unset, .unset, .unset, .unset, .unset, .unset, .unset, .unset, .unset, .unset, .unset, .unset, .unset, .unset, .unset, .unset]) (rest := []) (hb hby at_57)
  refine own_go st3 ?_
  have o_b52_b57 : b52 < b57 := by have q : b52 < h2.size := V_b52.lt; omega
  replace V_b47 := V_b47.ext E3
  replace V_b52 := V_b52.ext E3
  replace K := K.ext E3
  replace V_b57 : own_AI Z h3 b57 .int [0, 0, 0, 0] := V_b57
  clear st3 E3 hb_b57 X2 e2
  show own_WP p e below _ T3 (mkF m 59 #[.val (.int x0), .val (.int x1), .val (.int x2), .val (.int x3), .val (.long x4), .second, .val (.int x6), .val (.int (x0 &&& (2147483647 : Int32))), .val (.int (x1 &&& (2147483647 : Int32))), .val (.int (x2 &&& (2147483647 : Int32))), .val (.int (x3 &&& (2147483647 : Int32))), .val (.long (x4 &&& (9223372036854775807 : Int64))), .second, .val (.int (x6 &&& (3 : Int32))), .val (.int ((XT.ushr x6 (2 : Int32)) % (3 : Int32))), .val (.ref b47), .val (.ref b52), .unset, .unset, .unset, .unset, .unset, .unset, .unset, .unset, .unset, .unset, .unset, .unset, .unset, .unset, .unset, .unset, .unset, .unset, .unset, .unset] [(.ref b57)])
  refine own_go (fun _ => XS.astore X3.here hx rfl (hb hby at_59) rfl rfl rfl) ?_
  show own_WP p e below _ T3 (mkF m 61 #[.val (.int x0), .val (.int x1), .val (.int x2), .val (.int x3), .val (.long x4), .second, .val (.int x6), .val (.int (x0 &&& (2147483647 : Int32))), .val (.int (x1 &&& (2147483647 : Int32))), .val (.int (x2 &&& (2147483647 : Int32))), .val (.int (x3 &&& (2147483647 : Int32))), .val (.long (x4 &&& (9223372036854775807 : Int64))), .second, .val (.int (x6 &&& (3 : Int32))), .val (.int ((XT.ushr x6 (2 : Int32)) % (3 : Int32))), .val (.ref b47), .val (.ref b52), .val (.ref b57), .unset, .unset, .unset, .unset, .unset, .unset, .unset, .unset, .unset, .unset, .unset, .unset, .unset, .unset, .unset, .unset, .unset, .unset, .unset] [])
  exact b0_61 hw C Z0 rr hP X3 e3 N K o_b47_b52 o_b52_b57 g_b47 z_b47 V_b47 V_b52 V_b57 x0 x1 x2 x3 x4 x6 (x0 &&& (2147483647 : Int32)) (x1 &&& (2147483647 : Int32)) (x2 &&& (2147483647 : Int32)) (x3 &&& (2147483647 : Int32)) (x4 &&& (9223372036854775807 : Int64)) (x6 &&& (3 : Int32)) ((XT.ushr x6 (2 : Int32)) % (3 : Int32)) hv
theorem ef0 (m : MethodId) (x0 : Int32) (x1 : Int32) (x2 : Int32) (x3 : Int32) (x4 : Int64) (x6 : Int32) : entryFrame m #[(.int x0), (.int x1), (.int x2), (.int x3), (.long x4), (.int x6)] maxLocals = (mkF m 0 #[.val (.int x0), .val (.int x1), .val (.int x2), .val (.int x3), .val (.long x4), .second, .val (.int x6), .unset, .unset, .unset, .unset, .unset, .unset, .unset, .unset, .unset, .unset, .unset, .unset, .unset, .unset, .unset, .unset, .unset, .unset, .unset, .unset, .unset, .unset, .unset, .unset, .unset, .unset, .unset, .unset, .unset, .unset] []) := by first | (simp [entryFrame, mkF, argsToLocals, Value.category, maxLocals]; done) | rfl
theorem pn0 : plainFor x = true := plainFor_of_name (by first | (simp [plainName, overriddenIn, x]; done) | decide +kernel)
theorem own_F13a (k : Nat) fa hd re lv ld x2 x3 x4 : (F13_27 (k + 1)).1 fa hd re lv ld x2 x3 x4 = (if x4 < x3 then ((own_get lv x2).bind fun w8 => (if w8 = (-1 : Int32) then ((own_get ld x4).bind fun w10 => ((own_get fa w10).bind fun w12 => ((F13_27 k).2 fa hd re lv ld x2 x3 x4 w10 w12))) else (f13_144 lv ld x2))) else (f13_144 lv ld x2)) := rfl
theorem own_F13b (k : Nat) fa hd re lv ld x2 x3 x4 x5 x6 : (F13_27 (k + 1)).2 fa hd re lv ld x2 x3 x4 x5 x6 = ((own_get fa (x5 + (1 : Int32))).bind fun w16 => (if x6 < w16 then ((own_get hd x6).bind fun w18 => ((own_get lv w18).bind fun w20 => (if w20 = (-1 : Int32) then ((own_get re x6).bind fun w22 => (if (0 : Int32) < w22 then ((own_get lv x5).bind fun w25 => ((own_set lv w18 (w25 + (1 : Int32))).bind fun u26 => ((own_set ld x3 w18).bind fun u28 => ((F13_27 k).2 fa hd re u26 u28 x2 (x3 + (1 : Int32)) x4 x5 (x6 + (1 : Int32)))))) else ((F13_27 k).2 fa hd re lv ld x2 x3 x4 x5 (x6 + (1 : Int32))))) else ((F13_27 k).2 fa hd re lv ld x2 x3 x4 x5 (x6 + (1 : Int32)))))) else ((F13_27 k).1 fa hd re lv ld x2 x3 (x4 + (1 : Int32))))) := rfl
theorem own_F14a (k : Nat) n fa hd tw re lv ai ca x1 x2 x3 x5 x7 : (F14_23 (k + 1)).1 n fa hd tw re lv ai ca x1 x2 x3 x5 x7 = (if x5 < x3 then (if x7 = x2 then ((f15_0 hd tw ai re x1 x2 (x3 - x5)).bind fun rr5 => ((F14_23 k).1 n fa hd tw (rr5.2) lv ai ca x1 x2 x3 (x5 + ((rr5.1).toInt64)) x1)) else ((own_get fa (x7 + (1 : Int32))).bind fun w7 => ((own_get ca x7).bind fun w9 => ((F14_23 k).2 n fa hd tw re lv ai ca x1 x2 x3 x5 x7 w7 w9)))) else (some (x5, re, lv, ai, ca))) := rfl
theorem own_F14b (k : Nat) n fa hd tw re lv ai ca x1 x2 x3 x5 x7 x8 x9 : (F14_23 (k + 1)).2 n fa hd tw re lv ai ca x1 x2 x3 x5 x7 x8 x9 = (if x9 < x8 then ((own_get re x9).bind fun w11 => (if (0 : Int32) < w11 then ((own_get hd x9).bind fun w14 => ((own_get lv w14).bind fun w15 => ((own_get lv x7).bind fun w17 => (if w15 = (w17 + (1 : Int32)) then ((own_set ca x7 x9).bind fun u19 => (if x9 < x8 then ((own_get hd x9).bind fun w22 => ((own_set ai w22 x9).bind fun u23 => ((own_get hd x9).bind fun w25 => ((F14_23 k).1 n fa hd tw re lv u23 u19 x1 x2 x3 x5 w25)))) else (if x7 = x1 then (some (x5, re, lv, ai, u19)) else ((own_set lv x7 (-1 : Int32)).bind fun u27 => ((own_get ai x7).bind fun w31 => ((own_get tw w31).bind fun w32 => ((own_get hd w32).bind fun w33 => ((F14_23 k).1 n fa hd tw re u27 ai u19 x1 x2 x3 x5 w33)))))))) else ((F14_23 k).2 n fa hd tw re lv ai ca x1 x2 x3 x5 x7 x8 (x9 + (1 : Int32))))))) else ((F14_23 k).2 n fa hd tw re lv ai ca x1 x2 x3 x5 x7 x8 (x9 + (1 : Int32))))) else ((own_set ca x7 x9).bind fun u35 => (if x9 < x8 then ((own_get hd x9).bind fun w38 => ((own_set ai w38 x9).bind fun u39 => ((own_get hd x9).bind fun w41 => ((F14_23 k).1 n fa hd tw re lv u39 u35 x1 x2 x3 x5 w41)))) else (if x7 = x1 then (some (x5, re, lv, ai, u35)) else ((own_set lv x7 (-1 : Int32)).bind fun u43 => ((own_get ai x7).bind fun w47 => ((own_get tw w47).bind fun w48 => ((own_get hd w48).bind fun w49 => ((F14_23 k).1 n fa hd tw re u43 ai u35 x1 x2 x3 x5 w49))))))))) := rfl
theorem own_f15_6 (k : Nat) hd tw ai re x1 x2 x5 x7 : f15_6 (k + 1) hd tw ai re x1 x2 x5 x7 = (if x7 = x1 then (f15_62 5 hd tw ai re x1 (x5.toInt32) x2) else ((own_get ai x7).bind fun w12 => ((own_get re w12).bind fun w13 => ((own_get ai x7).bind fun w18 => ((own_get tw w18).bind fun w19 => ((own_get hd w19).bind fun w20 => (f15_6 k hd tw ai re x1 x2 (f16_0 x5 (w13.toInt64)) w20))))))) := rfl
theorem own_f15_62 (k : Nat) hd tw ai re x1 x7 x8 : f15_62 (k + 1) hd tw ai re x1 x7 x8 = (if x8 = x1 then (some (x7, re)) else ((own_get ai x8).bind fun w2 => ((f17_0 tw re w2 x7).bind fun rr3 => ((own_get ai x8).bind fun w7 => ((own_get tw w7).bind fun w8 => ((own_get hd w8).bind fun w9 => (f15_62 k hd tw ai rr3 x1 x7 w9))))))) := rfl
theorem own_f12_3 (k : Nat) n fa hd tw re lv ld ai ca x1 x2 x3 x5 : f12_3 (k + 1) n fa hd tw re lv ld ai ca x1 x2 x3 x5 = (if x5 < x3 then ((f13_0 fa hd re lv ld x1 x2).bind fun rr1 => (if (rr1.1) = (0 : Int32) then (some (x5, re, (rr1.2.1), (rr1.2.2), ai, ca)) else ((f14_0 n fa hd tw re (rr1.2.1) ai ca x1 x2 (x3 - x5)).bind fun rr2 => (f12_3 k n fa hd tw (rr2.2.1) (rr2.2.2.1) (rr1.2.2) (rr2.2.2.2.1) (rr2.2.2.2.2) x1 x2 x3 (x5 + (rr2.1)))))) else (some (x5, re, lv, ld, ai, ca))) := rfl
def own_G : Nat → (Int32 → (List Int32) → (List Int32) → (List Int32) → (List Int32) → (List Int32) → (List Int32) → (List Int32) → Int32 → Int32 → Int32 → Option (Bool × Nat × List Int32 × List Int32 × List Int32)) × (Int32 → (List Int32) → (List Int32) → (List Int32) → (List Int32) → (List Int32) → (List Int32) → (List Int32) → Int32 → Int32 → Int32 → Int32 → Int32 → Option (Bool × Nat × List Int32 × List Int32 × List Int32))
  | 0 => ((fun _ _ _ _ _ _ _ _ _ _ _ => none), (fun _ _ _ _ _ _ _ _ _ _ _ _ _ => none))
  | k + 1 => ((fun n fa hd tw re lv ai ca x1 x2 x7 => (if x7 = x2 then (some (true, k, lv, ai, ca)) else ((own_get fa (x7 + (1 : Int32))).bind fun w7 => ((own_get ca x7).bind fun w9 => ((own_G k).2 n fa hd tw re lv ai ca x1 x2 x7 w7 w9))))), (fun n fa hd tw re lv ai ca x1 x2 x7 x8 x9 => (if x9 < x8 then ((own_get re x9).bind fun w11 => (if (0 : Int32) < w11 then ((own_get hd x9).bind fun w14 => ((own_get lv w14).bind fun w15 => ((own_get lv x7).bind fun w17 => (if w15 = (w17 + (1 : Int32)) then ((own_set ca x7 x9).bind fun u19 => (if x9 < x8 then ((own_get hd x9).bind fun w22 => ((own_set ai w22 x9).bind fun u23 => ((own_get hd x9).bind fun w25 => ((own_G k).1 n fa hd tw re lv u23 u19 x1 x2 w25)))) else (if x7 = x1 then (some (false, 0, lv, ai, u19)) else ((own_set lv x7 (-1 : Int32)).bind fun u27 => ((own_get ai x7).bind fun w31 => ((own_get tw w31).bind fun w32 => ((own_get hd w32).bind fun w33 => ((own_G k).1 n fa hd tw re u27 ai u19 x1 x2 w33)))))))) else ((own_G k).2 n fa hd tw re lv ai ca x1 x2 x7 x8 (x9 + (1 : Int32))))))) else ((own_G k).2 n fa hd tw re lv ai ca x1 x2 x7 x8 (x9 + (1 : Int32))))) else ((own_set ca x7 x9).bind fun u35 => (if x9 < x8 then ((own_get hd x9).bind fun w38 => ((own_set ai w38 x9).bind fun u39 => ((own_get hd x9).bind fun w41 => ((own_G k).1 n fa hd tw re lv u39 u35 x1 x2 w41)))) else (if x7 = x1 then (some (false, 0, lv, ai, u35)) else ((own_set lv x7 (-1 : Int32)).bind fun u43 => ((own_get ai x7).bind fun w47 => ((own_get tw w47).bind fun w48 => ((own_get hd w48).bind fun w49 => ((own_G k).1 n fa hd tw re u43 ai u35 x1 x2 w49)))))))))))
theorem own_Ga (k : Nat) n fa hd tw re lv ai ca x1 x2 x7 : (own_G (k + 1)).1 n fa hd tw re lv ai ca x1 x2 x7 = (if x7 = x2 then (some (true, k, lv, ai, ca)) else ((own_get fa (x7 + (1 : Int32))).bind fun w7 => ((own_get ca x7).bind fun w9 => ((own_G k).2 n fa hd tw re lv ai ca x1 x2 x7 w7 w9)))) := rfl
theorem own_Gb (k : Nat) n fa hd tw re lv ai ca x1 x2 x7 x8 x9 : (own_G (k + 1)).2 n fa hd tw re lv ai ca x1 x2 x7 x8 x9 = (if x9 < x8 then ((own_get re x9).bind fun w11 => (if (0 : Int32) < w11 then ((own_get hd x9).bind fun w14 => ((own_get lv w14).bind fun w15 => ((own_get lv x7).bind fun w17 => (if w15 = (w17 + (1 : Int32)) then ((own_set ca x7 x9).bind fun u19 => (if x9 < x8 then ((own_get hd x9).bind fun w22 => ((own_set ai w22 x9).bind fun u23 => ((own_get hd x9).bind fun w25 => ((own_G k).1 n fa hd tw re lv u23 u19 x1 x2 w25)))) else (if x7 = x1 then (some (false, 0, lv, ai, u19)) else ((own_set lv x7 (-1 : Int32)).bind fun u27 => ((own_get ai x7).bind fun w31 => ((own_get tw w31).bind fun w32 => ((own_get hd w32).bind fun w33 => ((own_G k).1 n fa hd tw re u27 ai u19 x1 x2 w33)))))))) else ((own_G k).2 n fa hd tw re lv ai ca x1 x2 x7 x8 (x9 + (1 : Int32))))))) else ((own_G k).2 n fa hd tw re lv ai ca x1 x2 x7 x8 (x9 + (1 : Int32))))) else ((own_set ca x7 x9).bind fun u35 => (if x9 < x8 then ((own_get hd x9).bind fun w38 => ((own_set ai w38 x9).bind fun u39 => ((own_get hd x9).bind fun w41 => ((own_G k).1 n fa hd tw re lv u39 u35 x1 x2 w41)))) else (if x7 = x1 then (some (false, 0, lv, ai, u35)) else ((own_set lv x7 (-1 : Int32)).bind fun u43 => ((own_get ai x7).bind fun w47 => ((own_get tw w47).bind fun w48 => ((own_get hd w48).bind fun w49 => ((own_G k).1 n fa hd tw re u43 ai u35 x1 x2 w49))))))))) := rfl
def own_bi (b : Bool) : Int32 := cond b 1 0
def own_sg (w : Int32) : Int32 := own_bi (decide (0 < w))
def own_sgn (re : List Int32) : List Int32 := re.map own_sg
theorem own_sgP {w : Int32} (h : 0 < w) : own_sg w = 1 := by unfold own_sg; rw [decide_eq_true h]; rfl
theorem own_sgN {w : Int32} (h : ¬ 0 < w) : own_sg w = 0 := by unfold own_sg; rw [decide_eq_false h]; rfl
theorem own_sg0 : own_sg 0 = 0 := own_sgN (by decide)
theorem own_getS (re : List Int32) (j : Int32) : own_get (own_sgn re) j = (own_get re j).map own_sg := by
  unfold own_get own_sgn
  by_cases h : j < 0
  · rw [if_pos h, if_pos h]; rfl
  · rw [if_neg h, if_neg h, List.getElem?_map]
theorem own_gS {β : Type} (re : List Int32) (j : Int32) (A B : Option β) : ((own_get re j).bind fun w => if (0 : Int32) < w then A else B) = ((own_get (own_sgn re) j).bind fun w => if (0 : Int32) < w then A else B) := by
  rw [own_getS]
  cases own_get re j with
  | none => rfl
  | some w =>
    show (if 0 < w then A else B) = (if 0 < own_sg w then A else B)
    by_cases h : (0 : Int32) < w
    · rw [if_pos h, own_sgP h, if_pos (by decide : (0 : Int32) < 1)]
    · rw [if_neg h, own_sgN h, if_neg (by decide : ¬ (0 : Int32) < 0)]
theorem own_cb {α β γ : Type} {e : Option γ} {f : γ → Option β} {g : γ → Option α} {K : α → Option β} (h : ∀ w, f w = (g w).bind K) : e.bind f = (e.bind g).bind K := by
  cases e with
  | none => rfl
  | some w => exact h w
theorem own_ci {α β : Type} {c : Prop} [Decidable c] {A B : Option β} {A' B' : Option α} {K : α → Option β} (h1 : A = A'.bind K) (h2 : B = B'.bind K) : (if c then A else B) = (if c then A' else B').bind K := by
  by_cases h : c
  · rw [if_pos h, if_pos h]; exact h1
  · rw [if_neg h, if_neg h]; exact h2
theorem own_cs {α β : Type} {re : List Int32} {j : Int32} {A B : Option β} {A' B' : Option α} {K : α → Option β} (h1 : A = A'.bind K) (h2 : B = B'.bind K) : ((own_get re j).bind fun w => if (0 : Int32) < w then A else B) = ((own_get (own_sgn re) j).bind fun w => if (0 : Int32) < w then A' else B').bind K :=
  (own_gS re j A B).trans (own_cb fun _ => own_ci h1 h2)
theorem own_db {β γ : Type} {e : Option γ} {f g : γ → Option β} (h : ∀ w, f w = g w) : e.bind f = e.bind g := by
  cases e with
  | none => rfl
  | some w => exact h w
theorem own_di {β : Type} {c : Prop} [Decidable c] {A B A' B' : Option β} (h1 : A = A') (h2 : B = B') : (if c then A else B) = (if c then A' else B') := by rw [h1, h2]
theorem own_ds {β : Type} {re : List Int32} {j : Int32} {A B A' B' : Option β} (h1 : A = A') (h2 : B = B') : ((own_get re j).bind fun w => if (0 : Int32) < w then A else B) = ((own_get (own_sgn re) j).bind fun w => if (0 : Int32) < w then A' else B') := by
  rw [h1, h2]; exact own_gS re j A' B'
theorem own_S13 (k : Nat) : (∀ fa hd re lv ld x2 x3 x4, (F13_27 k).1 fa hd re lv ld x2 x3 x4 = (F13_27 k).1 fa hd (own_sgn re) lv ld x2 x3 x4) ∧ (∀ fa hd re lv ld x2 x3 x4 x5 x6, (F13_27 k).2 fa hd re lv ld x2 x3 x4 x5 x6 = (F13_27 k).2 fa hd (own_sgn re) lv ld x2 x3 x4 x5 x6) := by
  induction k with
  | zero => exact ⟨fun _ _ _ _ _ _ _ _ => rfl, fun _ _ _ _ _ _ _ _ _ _ => rfl⟩
  | succ k ih =>
    refine ⟨fun fa hd re lv ld x2 x3 x4 => ?_, fun fa hd re lv ld x2 x3 x4 x5 x6 => ?_⟩
    · refine (own_F13a k fa hd re lv ld x2 x3 x4).trans (Eq.trans ?_ (own_F13a k fa hd (own_sgn re) lv ld x2 x3 x4).symm)
      exact own_di (own_db fun _ => own_di (own_db fun _ => own_db fun _ => ih.2 _ _ _ _ _ _ _ _ _ _) rfl) rfl
    · refine (own_F13b k fa hd re lv ld x2 x3 x4 x5 x6).trans (Eq.trans ?_ (own_F13b k fa hd (own_sgn re) lv ld x2 x3 x4 x5 x6).symm)
      exact own_db fun _ => own_di (own_db fun _ => own_db fun _ => own_di (own_ds (own_db fun _ => own_db fun _ => own_db fun _ => ih.2 _ _ _ _ _ _ _ _ _ _) (ih.2 _ _ _ _ _ _ _ _ _ _)) (ih.2 _ _ _ _ _ _ _ _ _ _)) (ih.1 _ _ _ _ _ _ _ _)
theorem own_f13S (fa hd re lv ld : List Int32) (x1 x2 : Int32) : f13_0 fa hd re lv ld x1 x2 = f13_0 fa hd (own_sgn re) lv ld x1 x2 := by
  unfold f13_0
  exact own_db fun _ => own_db fun _ => own_db fun _ => (own_S13 30).1 _ _ _ _ _ _ _ _
def own_K (n : Int32) (fa hd tw re : List Int32) (x1 x2 : Int32) (x3 x5 : Int64) (g : Bool × Nat × List Int32 × List Int32 × List Int32) : Option (Int64 × List Int32 × List Int32 × List Int32 × List Int32) :=
  cond g.1 ((f15_0 hd tw g.2.2.2.1 re x1 x2 (x3 - x5)).bind fun q => (F14_23 g.2.1).1 n fa hd tw q.2 g.2.2.1 g.2.2.2.1 g.2.2.2.2 x1 x2 x3 (x5 + q.1.toInt64) x1) (some (x5, re, g.2.2.1, g.2.2.2.1, g.2.2.2.2))
theorem own_K1 {n : Int32} {fa hd tw re lv ai ca : List Int32} {x1 x2 : Int32} {x3 x5 : Int64} {k : Nat} : own_K n fa hd tw re x1 x2 x3 x5 (true, k, lv, ai, ca) = ((f15_0 hd tw ai re x1 x2 (x3 - x5)).bind fun q => (F14_23 k).1 n fa hd tw q.2 lv ai ca x1 x2 x3 (x5 + q.1.toInt64) x1) := rfl
theorem own_K0 {n : Int32} {fa hd tw re lv ai ca : List Int32} {x1 x2 : Int32} {x3 x5 : Int64} {k : Nat} : own_K n fa hd tw re x1 x2 x3 x5 (false, k, lv, ai, ca) = some (x5, re, lv, ai, ca) := rfl
theorem own_GF (k : Nat) : (∀ n fa hd tw re lv ai ca x1 x2 x3 x5 x7, x5 < x3 → (F14_23 k).1 n fa hd tw re lv ai ca x1 x2 x3 x5 x7 = ((own_G k).1 n fa hd tw (own_sgn re) lv ai ca x1 x2 x7).bind (own_K n fa hd tw re x1 x2 x3 x5)) ∧ (∀ n fa hd tw re lv ai ca x1 x2 x3 x5 x7 x8 x9, x5 < x3 → (F14_23 k).2 n fa hd tw re lv ai ca x1 x2 x3 x5 x7 x8 x9 = ((own_G k).2 n fa hd tw (own_sgn re) lv ai ca x1 x2 x7 x8 x9).bind (own_K n fa hd tw re x1 x2 x3 x5)) := by
  induction k with
  | zero => exact ⟨fun _ _ _ _ _ _ _ _ _ _ _ _ _ _ => rfl, fun _ _ _ _ _ _ _ _ _ _ _ _ _ _ _ _ => rfl⟩
  | succ k ih =>
    obtain ⟨i1, i2⟩ := ih
    refine ⟨fun n fa hd tw re lv ai ca x1 x2 x3 x5 x7 hx => ?_, fun n fa hd tw re lv ai ca x1 x2 x3 x5 x7 x8 x9 hx => ?_⟩
    · rw [own_F14a, own_Ga, if_pos hx]
      refine own_ci ?_ ?_
      · exact own_K1.symm
      · exact own_cb fun _ => own_cb fun _ => i2 _ _ _ _ _ _ _ _ _ _ _ _ _ _ _ hx
    · rw [own_F14b, own_Gb]
      have E : ∀ u19, (if x9 < x8 then ((own_get hd x9).bind fun w22 => ((own_set ai w22 x9).bind fun u23 => ((own_get hd x9).bind fun w25 => ((F14_23 k).1 n fa hd tw re lv u23 u19 x1 x2 x3 x5 w25)))) else (if x7 = x1 then (some (x5, re, lv, ai, u19)) else ((own_set lv x7 (-1 : Int32)).bind fun u27 => ((own_get ai x7).bind fun w31 => ((own_get tw w31).bind fun w32 => ((own_get hd w32).bind fun w33 => ((F14_23 k).1 n fa hd tw re u27 ai u19 x1 x2 x3 x5 w33)))))))
          = (if x9 < x8 then ((own_get hd x9).bind fun w22 => ((own_set ai w22 x9).bind fun u23 => ((own_get hd x9).bind fun w25 => ((own_G k).1 n fa hd tw (own_sgn re) lv u23 u19 x1 x2 w25)))) else (if x7 = x1 then (some (false, 0, lv, ai, u19)) else ((own_set lv x7 (-1 : Int32)).bind fun u27 => ((own_get ai x7).bind fun w31 => ((own_get tw w31).bind fun w32 => ((own_get hd w32).bind fun w33 => ((own_G k).1 n fa hd tw (own_sgn re) u27 ai u19 x1 x2 w33))))))).bind (own_K n fa hd tw re x1 x2 x3 x5) := by
        intro u19
        refine own_ci ?_ (own_ci ?_ ?_)
        · exact own_cb fun _ => own_cb fun _ => own_cb fun _ => i1 _ _ _ _ _ _ _ _ _ _ _ _ _ hx
        · exact own_K0.symm
        · exact own_cb fun _ => own_cb fun _ => own_cb fun _ => own_cb fun _ => i1 _ _ _ _ _ _ _ _ _ _ _ _ _ hx
      have N : (F14_23 k).2 n fa hd tw re lv ai ca x1 x2 x3 x5 x7 x8 (x9 + (1 : Int32)) = ((own_G k).2 n fa hd tw (own_sgn re) lv ai ca x1 x2 x7 x8 (x9 + (1 : Int32))).bind (own_K n fa hd tw re x1 x2 x3 x5) := i2 _ _ _ _ _ _ _ _ _ _ _ _ _ _ _ hx
      refine own_ci (own_cs (own_cb fun _ => own_cb fun _ => own_cb fun _ => own_ci (own_cb fun _ => E _) N) N) (own_cb fun _ => E _)
def own_S (k : Nat) (n : Int32) (fa hd tw re lv ai ca : List Int32) (x1 x2 x7 : Int32) : Option (Bool × Nat × List Int32 × List Int32 × List Int32) := (own_G k).1 n fa hd tw re lv ai ca x1 x2 x7
theorem own_GS (k : Nat) (n : Int32) (fa hd tw re lv ai ca : List Int32) (x1 x2 : Int32) (x3 x5 : Int64) (x7 : Int32) (hx : x5 < x3) : (F14_23 k).1 n fa hd tw re lv ai ca x1 x2 x3 x5 x7 = (own_S k n fa hd tw (own_sgn re) lv ai ca x1 x2 x7).bind (own_K n fa hd tw re x1 x2 x3 x5) := (own_GF k).1 n fa hd tw re lv ai ca x1 x2 x3 x5 x7 hx
theorem own_push1 {hd tw ai re re' : List Int32} {src snk ic jc c : Int32} {w : Int64} (h0 : ¬ snk = src) (h1 : own_get ai snk = some ic) (h2 : own_get tw ic = some jc) (h3 : own_get hd jc = some src) (h4 : own_get re ic = some c) (h5 : f17_0 tw re ic (f16_0 w c.toInt64).toInt32 = some re') :
    f15_0 hd tw ai re src snk w = some ((f16_0 w c.toInt64).toInt32, re') := by
  refine (own_f15_6 4 hd tw ai re src snk w snk).trans ?_
  simp only [if_neg h0, h1, h2, h3, h4, Option.bind_some]
  refine (own_f15_6 3 hd tw ai re src snk _ src).trans ?_
  rw [if_pos rfl]
  refine (own_f15_62 4 hd tw ai re src _ snk).trans ?_
  simp only [if_neg h0, h1, h2, h3, h5, Option.bind_some]
  exact (own_f15_62 3 hd tw ai re' src _ src).trans (if_pos rfl)
theorem own_push2 {hd tw ai re re1 re2 : List Int32} {src snk mid ia ib ja jb a b : Int32} {w : Int64} (h0 : ¬ snk = src) (k0 : ¬ mid = src) (h1 : own_get ai snk = some ib) (h2 : own_get tw ib = some jb) (h3 : own_get hd jb = some mid) (h4 : own_get re ib = some b)
    (k1 : own_get ai mid = some ia) (k2 : own_get tw ia = some ja) (k3 : own_get hd ja = some src) (k4 : own_get re ia = some a)
    (h5 : f17_0 tw re ib (f16_0 (f16_0 w b.toInt64) a.toInt64).toInt32 = some re1) (k5 : f17_0 tw re1 ia (f16_0 (f16_0 w b.toInt64) a.toInt64).toInt32 = some re2) :
    f15_0 hd tw ai re src snk w = some ((f16_0 (f16_0 w b.toInt64) a.toInt64).toInt32, re2) := by
  refine (own_f15_6 4 hd tw ai re src snk w snk).trans ?_
  simp only [if_neg h0, h1, h2, h3, h4, Option.bind_some]
  refine (own_f15_6 3 hd tw ai re src snk _ mid).trans ?_
  simp only [if_neg k0, k1, k2, k3, k4, Option.bind_some]
  refine (own_f15_6 2 hd tw ai re src snk _ src).trans ?_
  rw [if_pos rfl]
  refine (own_f15_62 4 hd tw ai re src _ snk).trans ?_
  simp only [if_neg h0, h1, h2, h3, h5, Option.bind_some]
  refine (own_f15_62 3 hd tw ai re1 src _ mid).trans ?_
  simp only [if_neg k0, k1, k2, k3, k5, Option.bind_some]
  exact (own_f15_62 2 hd tw ai re2 src _ src).trans (if_pos rfl)
theorem own_mn (x y : Int64) : (f16_0 x y).toInt ≤ x.toInt ∧ (f16_0 x y).toInt ≤ y.toInt ∧ ((f16_0 x y).toInt = x.toInt ∨ (f16_0 x y).toInt = y.toInt) := by
  unfold f16_0
  split
  · rename_i h; have := Int64.lt_iff_toInt_lt.mp h; omega
  · rename_i h; have := mt Int64.lt_iff_toInt_lt.mpr h; omega
theorem own_i32 (x : Int64) (c : Int32) (h : 0 ≤ x.toInt) (k : x.toInt ≤ c.toInt) : x.toInt32.toInt = x.toInt := by
  have a := c_l2i x
  have b := rng32 x.toInt32
  have d := rng32 c
  omega
def own_ok {α : Type} (e : Option α) (p : α → Bool) : Bool := match e with
  | none => false
  | some r => p r
theorem own_okE {α : Type} {e : Option α} {p : α → Bool} (h : own_ok e p = true) : ∃ r, e = some r ∧ p r = true := by
  cases e with
  | none => cases h
  | some r => exact ⟨r, rfl, h⟩
def own_c3 (R : Int32 → Int32 → Int32 → Int32 → Int32 → Int32 → Int32 → Int32 → List Int32) (fa hd tw : List Int32) (src snk : Int32) (sd tc : Bool) (k : Nat) (lv ld ai ca : List Int32) (xa xb : Bool) : Bool :=
  own_ok (own_S k 3 fa hd tw (R (own_bi xa) (own_bi xb) 0 (own_bi sd) 1 1 (own_bi tc) 0) lv ai ca src snk src) fun g =>
    !g.1 && own_ok (f13_0 fa hd (R (own_bi xa) (own_bi xb) 0 (own_bi sd) 1 1 (own_bi tc) 0) g.2.2.1 ld src snk) fun q => decide (q.1 = 0)
def own_c2 (R : Int32 → Int32 → Int32 → Int32 → Int32 → Int32 → Int32 → Int32 → List Int32) (fa hd tw : List Int32) (src snk mid ia ib : Int32) (sa sb sd tc : Bool) (lv ld ai ca : List Int32) : Bool :=
  own_ok (f13_0 fa hd (R (own_bi sa) (own_bi sb) 0 (own_bi sd) 0 0 (own_bi tc) 0) lv ld src snk) fun q =>
    cond (sa && sb)
      (decide (q.1 = 1) && own_ok (own_copyL fa 0 ca 0 3) fun c0 => own_ok (own_S 40 3 fa hd tw (R (own_bi sa) (own_bi sb) 0 (own_bi sd) 0 0 (own_bi tc) 0) q.2.1 ai c0 src snk src) fun g =>
        g.1 && (decide (0 < g.2.1) && (decide (own_get g.2.2.2.1 snk = some ib) && (decide (own_get g.2.2.2.1 mid = some ia) &&
          (own_c3 R fa hd tw src snk sd tc g.2.1 g.2.2.1 q.2.2 g.2.2.2.1 g.2.2.2.2 false false && (own_c3 R fa hd tw src snk sd tc g.2.1 g.2.2.1 q.2.2 g.2.2.2.1 g.2.2.2.2 false true && own_c3 R fa hd tw src snk sd tc g.2.1 g.2.2.1 q.2.2 g.2.2.2.1 g.2.2.2.2 true false))))))
      (decide (q.1 = 0))
def own_c1 (R : Int32 → Int32 → Int32 → Int32 → Int32 → Int32 → Int32 → Int32 → List Int32) (fa hd tw : List Int32) (src snk mid ia ib ic : Int32) (sa sb sd : Bool) : Bool :=
  own_ok (f13_0 fa hd (R (own_bi sa) (own_bi sb) 1 (own_bi sd) 0 0 0 0) [0, 0, 0] [0, 0, 0] src snk) fun q =>
    decide (q.1 = 1) && own_ok (own_copyL fa 0 [0, 0, 0] 0 3) fun c0 => own_ok (own_S 40 3 fa hd tw (R (own_bi sa) (own_bi sb) 1 (own_bi sd) 0 0 0 0) q.2.1 [0, 0, 0] c0 src snk src) fun g =>
      g.1 && (decide (0 < g.2.1) && (decide (own_get g.2.2.2.1 snk = some ic) &&
        own_ok (own_S g.2.1 3 fa hd tw (R (own_bi sa) (own_bi sb) 0 (own_bi sd) 0 0 1 0) g.2.2.1 g.2.2.2.1 g.2.2.2.2 src snk src) fun h =>
          !h.1 && own_c2 R fa hd tw src snk mid ia ib sa sb sd true h.2.2.1 q.2.2 h.2.2.2.1 h.2.2.2.2))
def own_Sh (R : Int32 → Int32 → Int32 → Int32 → Int32 → Int32 → Int32 → Int32 → List Int32) (fa hd tw : List Int32) (src snk mid ia ib ic : Int32) : Prop :=
  (∀ a b c d p q r t, own_sgn (R a b c d p q r t) = R (own_sg a) (own_sg b) (own_sg c) (own_sg d) (own_sg p) (own_sg q) (own_sg r) (own_sg t)) ∧
  (∀ a b c d p q r t, own_get (R a b c d p q r t) ia = some a) ∧ (∀ a b c d p q r t, own_get (R a b c d p q r t) ib = some b) ∧ (∀ a b c d p q r t, own_get (R a b c d p q r t) ic = some c) ∧
  (∀ a b c d p q r t u, f17_0 tw (R a b c d p q r t) ia u = some (R (a - u) b c d (p + u) q r t)) ∧
  (∀ a b c d p q r t u, f17_0 tw (R a b c d p q r t) ib u = some (R a (b - u) c d p (q + u) r t)) ∧
  (∀ a b c d p q r t u, f17_0 tw (R a b c d p q r t) ic u = some (R a b (c - u) d p q (r + u) t)) ∧
  ¬ snk = src ∧ ¬ mid = src ∧
  (∃ j, own_get tw ia = some j ∧ own_get hd j = some src) ∧ (∃ j, own_get tw ib = some j ∧ own_get hd j = some mid) ∧ (∃ j, own_get tw ic = some j ∧ own_get hd j = some src) ∧
  (∀ sa sb sd : Bool, own_c1 R fa hd tw src snk mid ia ib ic sa sb sd = true) ∧
  (∀ sa sb sd : Bool, own_c2 R fa hd tw src snk mid ia ib sa sb sd false [0, 0, 0] [0, 0, 0] [0, 0, 0] [0, 0, 0] = true)
theorem own_ph2 {R : Int32 → Int32 → Int32 → Int32 → Int32 → Int32 → Int32 → Int32 → List Int32} {fa hd tw : List Int32} {src snk mid ia ib ic : Int32} (H : own_Sh R fa hd tw src snk mid ia ib ic) (a b d r : Int32) (tc : Bool) (lim x5 : Int64) (k : Nat) (lv ld ai ca : List Int32)
    (ha : 0 ≤ a.toInt) (hb : 0 ≤ b.toInt) (hr : own_sg r = own_bi tc) (hx : 0 ≤ x5.toInt) (hl : x5.toInt < lim.toInt) (hc : own_c2 R fa hd tw src snk mid ia ib (decide (0 < a)) (decide (0 < b)) (decide (0 < d)) tc lv ld ai ca = true) :
    ∃ v y, f12_3 (k + 2) 3 fa hd tw (R a b 0 d 0 0 r 0) lv ld ai ca src snk lim x5 = some (x5 + v.toInt64, R (a - v) (b - v) 0 d v v r 0, y) ∧ v.toInt ≤ lim.toInt - x5.toInt ∧ v.toInt ≤ a.toInt ∧ v.toInt ≤ b.toInt ∧ (v.toInt = lim.toInt - x5.toInt ∨ v.toInt = a.toInt ∨ v.toInt = b.toInt) := by
  obtain ⟨hR, ga, gb, -, pa, pb, -, n1, n2, ⟨ja, ja1, ja2⟩, ⟨jb, jb1, jb2⟩, -, -, -⟩ := H
  have es : own_sgn (R a b 0 d 0 0 r 0) = R (own_bi (decide (0 < a))) (own_bi (decide (0 < b))) 0 (own_bi (decide (0 < d))) 0 0 (own_bi tc) 0 := by
    rw [hR, hr, own_sg0]; rfl
  unfold own_c2 at hc
  obtain ⟨⟨q1, q2, q3⟩, eq, hq⟩ := own_okE hc
  have e13 : f13_0 fa hd (R a b 0 d 0 0 r 0) lv ld src snk = some (q1, q2, q3) := by rw [own_f13S, es]; exact eq
  have lt : x5 < lim := Int64.lt_iff_toInt_lt.mpr hl
  have z32 : (0 : Int32).toInt = 0 := rfl
  have z64 : (0 : Int64).toInt = 0 := rfl
  by_cases hab : 0 < a ∧ 0 < b
  · have da : decide (0 < a) = true := decide_eq_true hab.1
    have db : decide (0 < b) = true := decide_eq_true hab.2
    have ia0 := Int32.lt_iff_toInt_lt.mp hab.1
    have ib0 := Int32.lt_iff_toInt_lt.mp hab.2
    rw [z32] at ia0 ib0
    simp only [da, db, Bool.and_self, cond_true, Bool.and_eq_true, decide_eq_true_eq] at hq
    rw [da, db] at es
    obtain ⟨h1, hq⟩ := hq
    subst h1
    obtain ⟨c0, ec0, hq⟩ := own_okE hq
    obtain ⟨⟨g1, gk, glv, gai, gca⟩, eg, hg⟩ := own_okE hq
    simp only [Bool.and_eq_true, decide_eq_true_eq] at hg
    obtain ⟨hg1, hgk, hgs, hgm, hf1, hf2, hf3⟩ := hg
    subst hg1
    have hw : (lim - x5).toInt = lim.toInt - x5.toInt := by
      have q := c_lsub lim x5
      have r1 := rng64 (lim - x5)
      have r2 := rng64 lim
      omega
    have lw : (0 : Int64) < lim - x5 := Int64.lt_iff_toInt_lt.mpr (by rw [hw, z64]; omega)
    obtain ⟨v, hv⟩ : ∃ v, v = (f16_0 (f16_0 (lim - x5) b.toInt64) a.toInt64).toInt32 := ⟨_, rfl⟩
    have m1 := own_mn (lim - x5) b.toInt64
    have m2 := own_mn (f16_0 (lim - x5) b.toInt64) a.toInt64
    rw [c_i2l] at m1 m2
    rw [hw] at m1
    have m3 := own_i32 (f16_0 (f16_0 (lim - x5) b.toInt64) a.toInt64) a (by omega) (by omega)
    rw [← hv] at m3
    have hp : f15_0 hd tw gai (R a b 0 d 0 0 r 0) src snk (lim - x5 - 0) = some (v, R (a - v) (b - v) 0 d v v r 0) := by
      rw [Int64.sub_zero, hv]
      refine own_push2 n1 n2 hgs jb1 jb2 (gb _ _ _ _ _ _ _ _) hgm ja1 ja2 (ga _ _ _ _ _ _ _ _) (pb _ _ _ _ _ _ _ _ _) ?_
      rw [pa, Int32.zero_add]
    have v0 : (0 : Int32) < v := Int32.lt_iff_toInt_lt.mpr (by rw [z32]; omega)
    have ev : v.toInt64.toInt = v.toInt := c_i2l v
    have esum : (x5 + v.toInt64).toInt = x5.toInt + v.toInt := by
      have q := c_ladd x5 v.toInt64
      have r1 := rng64 (x5 + v.toInt64)
      have r2 := rng64 lim
      omega
    by_cases hvw : v.toInt < lim.toInt - x5.toInt
    · have es2 : own_sgn (R (a - v) (b - v) 0 d v v r 0) = R (own_bi (decide (0 < a - v))) (own_bi (decide (0 < b - v))) 0 (own_bi (decide (0 < d))) 1 1 (own_bi tc) 0 := by
        rw [hR, hr, own_sg0, own_sgP v0]; rfl
      have h3 : own_c3 R fa hd tw src snk (decide (0 < d)) tc gk glv q3 gai gca (decide (0 < a - v)) (decide (0 < b - v)) = true := by
        have sa := c_isub a v
        have sb := c_isub b v
        have r1 := rng32 (a - v)
        have r2 := rng32 (b - v)
        have r3 := rng32 a
        have r4 := rng32 b
        cases xa : decide (0 < a - v) <;> cases xb : decide (0 < b - v)
        · exact hf1
        · exact hf2
        · exact hf3
        · have ya := Int32.lt_iff_toInt_lt.mp (of_decide_eq_true xa)
          have yb := Int32.lt_iff_toInt_lt.mp (of_decide_eq_true xb)
          rw [z32] at ya yb
          omega
      unfold own_c3 at h3
      obtain ⟨⟨k1, kk, klv, kai, kca⟩, ek, hk⟩ := own_okE h3
      simp only [Bool.and_eq_true, Bool.not_eq_true'] at hk
      obtain ⟨hk1, hk⟩ := hk
      subst hk1
      obtain ⟨⟨p1, p2, p3⟩, ep, hp1⟩ := own_okE hk
      have hp1 : p1 = 0 := of_decide_eq_true hp1
      subst hp1
      have e14 : f14_0 3 fa hd tw (R a b 0 d 0 0 r 0) q2 ai ca src snk (lim - x5) = some (v.toInt64, R (a - v) (b - v) 0 d v v r 0, klv, kai, kca) := by
        unfold f14_0
        rw [ec0, Option.bind_some, own_GS 40 _ _ _ _ _ _ _ _ _ _ _ _ _ lw, es, eg, Option.bind_some, own_K1, hp, Option.bind_some]
        dsimp only
        rw [Int64.zero_add]
        have l2 : v.toInt64 < lim - x5 := Int64.lt_iff_toInt_lt.mpr (by rw [hw, ev]; exact hvw)
        rw [own_GS gk _ _ _ _ _ _ _ _ _ _ _ _ _ l2, es2, ek, Option.bind_some, own_K0]
      have e13b : f13_0 fa hd (R (a - v) (b - v) 0 d v v r 0) klv q3 src snk = some (0, p2, p3) := by rw [own_f13S, es2]; exact ep
      refine ⟨v, (p2, p3, kai, kca), ?_, by omega, by omega, by omega, by omega⟩
      have l3 : x5 + v.toInt64 < lim := Int64.lt_iff_toInt_lt.mpr (by rw [esum]; omega)
      refine (own_f12_3 (k + 1) 3 fa hd tw (R a b 0 d 0 0 r 0) lv ld ai ca src snk lim x5).trans ?_
      rw [if_pos lt, e13, Option.bind_some]
      refine (if_neg (show ¬ (1 : Int32) = 0 by decide)).trans ?_
      show (f14_0 3 fa hd tw (R a b 0 d 0 0 r 0) q2 ai ca src snk (lim - x5)).bind _ = _
      rw [e14, Option.bind_some]
      refine (own_f12_3 k 3 fa hd tw (R (a - v) (b - v) 0 d v v r 0) klv q3 kai kca src snk lim (x5 + v.toInt64)).trans ?_
      rw [if_pos l3, e13b, Option.bind_some]
      exact if_pos rfl
    · have e14 : f14_0 3 fa hd tw (R a b 0 d 0 0 r 0) q2 ai ca src snk (lim - x5) = some (v.toInt64, R (a - v) (b - v) 0 d v v r 0, glv, gai, gca) := by
        unfold f14_0
        rw [ec0, Option.bind_some, own_GS 40 _ _ _ _ _ _ _ _ _ _ _ _ _ lw, es, eg, Option.bind_some, own_K1, hp, Option.bind_some]
        dsimp only
        rw [Int64.zero_add]
        obtain ⟨k', rfl⟩ : ∃ k', gk = k' + 1 := ⟨gk - 1, by omega⟩
        refine (own_F14a k' _ _ _ _ _ _ _ _ _ _ _ _ _).trans ?_
        exact if_neg (fun h => hvw (by have := Int64.lt_iff_toInt_lt.mp h; omega))
      refine ⟨v, (glv, q3, gai, gca), ?_, by omega, by omega, by omega, by omega⟩
      refine (own_f12_3 (k + 1) 3 fa hd tw (R a b 0 d 0 0 r 0) lv ld ai ca src snk lim x5).trans ?_
      rw [if_pos lt, e13, Option.bind_some]
      refine (if_neg (show ¬ (1 : Int32) = 0 by decide)).trans ?_
      show (f14_0 3 fa hd tw (R a b 0 d 0 0 r 0) q2 ai ca src snk (lim - x5)).bind _ = _
      rw [e14, Option.bind_some]
      refine (own_f12_3 k 3 fa hd tw (R (a - v) (b - v) 0 d v v r 0) glv q3 gai gca src snk lim (x5 + v.toInt64)).trans ?_
      exact if_neg (fun h => hvw (by have := Int64.lt_iff_toInt_lt.mp h; omega))
  · have hf : (decide (0 < a) && decide (0 < b)) = false := by
      cases h1 : decide (0 < a) <;> cases h2 : decide (0 < b) <;> first | rfl | exact absurd ⟨of_decide_eq_true h1, of_decide_eq_true h2⟩ hab
    rw [hf] at hq
    have q0 : q1 = 0 := of_decide_eq_true hq
    subst q0
    have hab' : ¬ (0 < a.toInt ∧ 0 < b.toInt) := fun h => hab ⟨Int32.lt_iff_toInt_lt.mpr h.1, Int32.lt_iff_toInt_lt.mpr h.2⟩
    refine ⟨0, (q2, q3, ai, ca), ?_, by rw [z32]; omega, by rw [z32]; omega, by rw [z32]; omega, by rw [z32]; omega⟩
    refine (own_f12_3 (k + 1) 3 fa hd tw (R a b 0 d 0 0 r 0) lv ld ai ca src snk lim x5).trans ?_
    rw [if_pos lt, e13, Option.bind_some, Int32.sub_zero, Int32.sub_zero, (by decide : (0 : Int32).toInt64 = 0), Int64.add_zero]
    exact if_pos rfl
theorem own_ph1 {R : Int32 → Int32 → Int32 → Int32 → Int32 → Int32 → Int32 → Int32 → List Int32} {fa hd tw : List Int32} {src snk mid ia ib ic : Int32} (H : own_Sh R fa hd tw src snk mid ia ib ic) (a b c d : Int32) (lim : Int64)
    (ha : 0 ≤ a.toInt) (hb : 0 ≤ b.toInt) (hc : 0 ≤ c.toInt) (hl : 0 ≤ lim.toInt) :
    ∃ u v y, f12_0 3 fa hd tw (R a b c d 0 0 0 0) [0, 0, 0] [0, 0, 0] [0, 0, 0] [0, 0, 0] src snk lim = some (u.toInt64 + v.toInt64, R (a - v) (b - v) (c - u) d v v u 0, y) ∧ u.toInt ≤ lim.toInt ∧ u.toInt ≤ c.toInt ∧ (u.toInt = lim.toInt ∨ u.toInt = c.toInt) ∧
      v.toInt ≤ lim.toInt - u.toInt ∧ v.toInt ≤ a.toInt ∧ v.toInt ≤ b.toInt ∧ (v.toInt = lim.toInt - u.toInt ∨ v.toInt = a.toInt ∨ v.toInt = b.toInt) := by
  have HH := H
  obtain ⟨hR, -, -, gc, -, -, pc, n1, -, -, -, ⟨jc, jc1, jc2⟩, C1, C2⟩ := H
  have z32 : (0 : Int32).toInt = 0 := rfl
  have z64 : (0 : Int64).toInt = 0 := rfl
  have zz : (0 : Int32).toInt64 = 0 := by decide
  unfold f12_0
  by_cases hl0 : 0 < lim.toInt
  · have lt : (0 : Int64) < lim := Int64.lt_iff_toInt_lt.mpr (by rw [z64]; exact hl0)
    by_cases hc0 : (0 : Int32) < c
    · have hc1 := C1 (decide (0 < a)) (decide (0 < b)) (decide (0 < d))
      unfold own_c1 at hc1
      have ic0 := Int32.lt_iff_toInt_lt.mp hc0
      rw [z32] at ic0
      have es : own_sgn (R a b c d 0 0 0 0) = R (own_bi (decide (0 < a))) (own_bi (decide (0 < b))) 1 (own_bi (decide (0 < d))) 0 0 0 0 := by
        rw [hR, own_sg0, own_sgP hc0]; rfl
      obtain ⟨⟨q1, q2, q3⟩, eq, hq⟩ := own_okE hc1
      have e13 : f13_0 fa hd (R a b c d 0 0 0 0) [0, 0, 0] [0, 0, 0] src snk = some (q1, q2, q3) := by rw [own_f13S, es]; exact eq
      simp only [Bool.and_eq_true, decide_eq_true_eq] at hq
      obtain ⟨h1, hq⟩ := hq
      subst h1
      obtain ⟨c0, ec0, hq⟩ := own_okE hq
      obtain ⟨⟨g1, gk, glv, gai, gca⟩, eg, hg⟩ := own_okE hq
      simp only [Bool.and_eq_true, decide_eq_true_eq] at hg
      obtain ⟨hg1, hgk, hgs, hg⟩ := hg
      subst hg1
      obtain ⟨u, hu⟩ : ∃ u, u = (f16_0 lim c.toInt64).toInt32 := ⟨_, rfl⟩
      have m1 := own_mn lim c.toInt64
      rw [c_i2l] at m1
      have m3 := own_i32 (f16_0 lim c.toInt64) c (by omega) (by omega)
      rw [← hu] at m3
      have hp : f15_0 hd tw gai (R a b c d 0 0 0 0) src snk (lim - 0) = some (u, R a b (c - u) d 0 0 u 0) := by
        rw [Int64.sub_zero, hu]
        refine own_push1 n1 hgs jc1 jc2 (gc _ _ _ _ _ _ _ _) ?_
        rw [pc, Int32.zero_add]
      have u0 : (0 : Int32) < u := Int32.lt_iff_toInt_lt.mpr (by rw [z32]; omega)
      have eu : u.toInt64.toInt = u.toInt := c_i2l u
      by_cases hul : u.toInt < lim.toInt
      · have hcu : c - u = 0 := by
          have : u = c := Int32.toInt_inj.mp (by omega)
          rw [this, Int32.sub_self]
        have es2 : own_sgn (R a b 0 d 0 0 u 0) = R (own_bi (decide (0 < a))) (own_bi (decide (0 < b))) 0 (own_bi (decide (0 < d))) 0 0 1 0 := by
          rw [hR, own_sg0, own_sgP u0]; rfl
        obtain ⟨⟨k1, kk, klv, kai, kca⟩, ek, hk⟩ := own_okE hg
        simp only [Bool.and_eq_true, Bool.not_eq_true'] at hk
        obtain ⟨hk1, hk⟩ := hk
        subst hk1
        have e14 : f14_0 3 fa hd tw (R a b c d 0 0 0 0) q2 [0, 0, 0] [0, 0, 0] src snk lim = some (u.toInt64, R a b 0 d 0 0 u 0, klv, kai, kca) := by
          unfold f14_0
          have l2 : u.toInt64 < lim := Int64.lt_iff_toInt_lt.mpr (by rw [eu]; exact hul)
          rw [ec0, Option.bind_some, own_GS 40 _ _ _ _ _ _ _ _ _ _ _ _ _ lt, es, eg, Option.bind_some, own_K1, hp, Option.bind_some]
          dsimp only
          rw [Int64.zero_add, hcu, own_GS gk _ _ _ _ _ _ _ _ _ _ _ _ _ l2, es2, ek, Option.bind_some, own_K0]
        obtain ⟨v, y, e, f1, f2, f3, f4⟩ := own_ph2 HH a b d u true lim u.toInt64 2 klv q3 kai kca ha hb (own_sgP u0) (by omega) (by omega) hk
        rw [eu] at f1 f4
        refine ⟨u, v, y, ?_, by omega, by omega, by omega, f1, f2, f3, f4⟩
        refine (own_f12_3 4 3 fa hd tw (R a b c d 0 0 0 0) [0, 0, 0] [0, 0, 0] [0, 0, 0] [0, 0, 0] src snk lim 0).trans ?_
        rw [if_pos lt, e13, Option.bind_some]
        refine (if_neg (show ¬ (1 : Int32) = 0 by decide)).trans ?_
        show (f14_0 3 fa hd tw (R a b c d 0 0 0 0) q2 [0, 0, 0] [0, 0, 0] src snk (lim - 0)).bind _ = _
        rw [Int64.sub_zero, e14, Option.bind_some]
        dsimp only
        rw [Int64.zero_add, hcu]
        exact e
      · have e14 : f14_0 3 fa hd tw (R a b c d 0 0 0 0) q2 [0, 0, 0] [0, 0, 0] src snk lim = some (u.toInt64, R a b (c - u) d 0 0 u 0, glv, gai, gca) := by
          unfold f14_0
          rw [ec0, Option.bind_some, own_GS 40 _ _ _ _ _ _ _ _ _ _ _ _ _ lt, es, eg, Option.bind_some, own_K1, hp, Option.bind_some]
          dsimp only
          rw [Int64.zero_add]
          obtain ⟨k', rfl⟩ : ∃ k', gk = k' + 1 := ⟨gk - 1, by omega⟩
          refine (own_F14a k' _ _ _ _ _ _ _ _ _ _ _ _ _).trans ?_
          exact if_neg (fun h => hul (by have := Int64.lt_iff_toInt_lt.mp h; omega))
        refine ⟨u, 0, (glv, q3, gai, gca), ?_, by omega, by omega, by omega, by rw [z32]; omega, by rw [z32]; omega, by rw [z32]; omega, by rw [z32]; omega⟩
        refine (own_f12_3 4 3 fa hd tw (R a b c d 0 0 0 0) [0, 0, 0] [0, 0, 0] [0, 0, 0] [0, 0, 0] src snk lim 0).trans ?_
        rw [if_pos lt, e13, Option.bind_some]
        refine (if_neg (show ¬ (1 : Int32) = 0 by decide)).trans ?_
        show (f14_0 3 fa hd tw (R a b c d 0 0 0 0) q2 [0, 0, 0] [0, 0, 0] src snk (lim - 0)).bind _ = _
        rw [Int64.sub_zero, e14, Option.bind_some]
        dsimp only
        rw [Int64.zero_add, Int32.sub_zero, Int32.sub_zero, zz, Int64.add_zero]
        refine (own_f12_3 3 3 fa hd tw (R a b (c - u) d 0 0 u 0) glv q3 gai gca src snk lim u.toInt64).trans ?_
        exact if_neg (fun h => hul (by have := Int64.lt_iff_toInt_lt.mp h; omega))
    · have c00 : c = 0 := Int32.toInt_inj.mp (by
        have := mt Int32.lt_iff_toInt_lt.mpr hc0
        rw [z32] at this ⊢
        omega)
      subst c00
      obtain ⟨v, y, e, f1, f2, f3, f4⟩ := own_ph2 HH a b d 0 false lim 0 3 [0, 0, 0] [0, 0, 0] [0, 0, 0] [0, 0, 0] ha hb own_sg0 (by omega) (by omega) (C2 _ _ _)
      rw [z64] at f1 f4
      refine ⟨0, v, y, ?_, by omega, by omega, by omega, by omega, f2, f3, by omega⟩
      rw [zz, Int32.sub_self]
      exact e
  · refine ⟨0, 0, ([0, 0, 0], [0, 0, 0], [0, 0, 0], [0, 0, 0]), ?_, by rw [z32]; omega, by rw [z32]; omega, by rw [z32]; omega, by rw [z32]; omega, by rw [z32]; omega, by rw [z32]; omega, by rw [z32]; omega⟩
    have nl : ¬ (0 : Int64) < lim := fun h => hl0 (by have q := Int64.lt_iff_toInt_lt.mp h; omega)
    refine (own_f12_3 4 3 fa hd tw (R a b c d 0 0 0 0) [0, 0, 0] [0, 0, 0] [0, 0, 0] [0, 0, 0] src snk lim 0).trans ?_
    rw [Int32.sub_zero, Int32.sub_zero, Int32.sub_zero, zz, Int64.add_zero]
    exact if_neg nl
theorem own_tail {a b c u v : Int32} {lim : Int64} (ha : 0 ≤ a.toInt) (hb : 0 ≤ b.toInt) (hc : 0 ≤ c.toInt) (hl : 0 ≤ lim.toInt)
    (h : u.toInt ≤ lim.toInt ∧ u.toInt ≤ c.toInt ∧ (u.toInt = lim.toInt ∨ u.toInt = c.toInt) ∧ v.toInt ≤ lim.toInt - u.toInt ∧ v.toInt ≤ a.toInt ∧ v.toInt ≤ b.toInt ∧ (v.toInt = lim.toInt - u.toInt ∨ v.toInt = a.toInt ∨ v.toInt = b.toInt)) :
    f0_222 [v, v, u, 0] a b c lim 0 (u.toInt64 + v.toInt64) = some 1 := by
  have z64 : (0 : Int64).toInt = 0 := rfl
  have zz : (0 : Int32).toInt64 = 0 := by decide
  have ra := rng32 a
  have rb := rng32 b
  have rc := rng32 c
  have ea := c_i2l a
  have eb := c_i2l b
  have ec := c_i2l c
  have eu := c_i2l u
  have ev := c_i2l v
  have m1 := own_mn a.toInt64 b.toInt64
  obtain ⟨M, hM⟩ : ∃ M, M = f16_0 a.toInt64 b.toInt64 := ⟨_, rfl⟩
  rw [← hM] at m1
  have s1 := c_ladd M c.toInt64
  have s2 := rng64 (M + c.toInt64)
  have m2 := own_mn lim (M + c.toInt64)
  obtain ⟨N, hN⟩ : ∃ N, N = f16_0 lim (M + c.toInt64) := ⟨_, rfl⟩
  rw [← hN] at m2
  have s3 := c_ladd u.toInt64 v.toInt64
  have s4 := rng64 (u.toInt64 + v.toInt64)
  have s5 := c_ladd v.toInt64 u.toInt64
  have s6 := rng64 (v.toInt64 + u.toInt64)
  have k1 : u.toInt64 + v.toInt64 = N := Int64.toInt_inj.mp (by omega)
  have k2 : v.toInt64 + u.toInt64 = N := Int64.toInt_inj.mp (by omega)
  have k3 : ¬ v.toInt64 < 0 := fun q => by have := Int64.lt_iff_toInt_lt.mp q; omega
  have k4 : ¬ a.toInt64 < v.toInt64 := fun q => by have := Int64.lt_iff_toInt_lt.mp q; omega
  have k5 : ¬ b.toInt64 < v.toInt64 := fun q => by have := Int64.lt_iff_toInt_lt.mp q; omega
  have k6 : ¬ u.toInt64 < 0 := fun q => by have := Int64.lt_iff_toInt_lt.mp q; omega
  have k7 : ¬ c.toInt64 < u.toInt64 := fun q => by have := Int64.lt_iff_toInt_lt.mp q; omega
  unfold f0_222
  have e0 : own_get [v, v, u, 0] (((0 : Int32) - 0) &&& (3 : Int32)) = some v := rfl
  have e1 : own_get [v, v, u, 0] (((1 : Int32) - 0) &&& (3 : Int32)) = some v := rfl
  have e2 : own_get [v, v, u, 0] (((2 : Int32) - 0) &&& (3 : Int32)) = some u := rfl
  have e3 : own_get [v, v, u, 0] (((3 : Int32) - 0) &&& (3 : Int32)) = some 0 := rfl
  rw [e0, Option.bind_some, e1, Option.bind_some, e2, Option.bind_some, e3, Option.bind_some]
  unfold own_let
  try dsimp only
  rw [← hM, ← hN, if_pos k1, zz, if_pos rfl, if_neg k3, if_neg k4, if_neg k3, if_neg k5, if_neg k6, if_neg k7, Int64.add_zero, if_pos rfl, if_pos k2]
  unfold f0_388
  by_cases k8 : lim < M + c.toInt64
  · exact (if_pos k8).trans (by first | rfl | decide)
  · have k9 := mt Int64.lt_iff_toInt_lt.mpr k8
    have j1 : v.toInt64 = M := Int64.toInt_inj.mp (by omega)
    have j2 : u.toInt64 = c.toInt64 := Int64.toInt_inj.mp (by omega)
    rw [if_neg k8, if_neg (by decide : ¬ (1 : Int32) = 0), if_pos j1, if_pos j1, if_pos j2]
def own_pre (r s a b c d : Int32) : Option (Int32 × (List Int32) × (List Int32) × (List Int32) × (List Int32) × (List Int32) × (List Int32) × (List Int32) × (List Int32) × (List Int32)) := ((f1_0 [0, 0, 0, 0] [0, 0, 0, 0] [0, 0, 0, 0] (0 : Int32) (((0 : Int32) + r) &&& (3 : Int32)) s a b c d).bind fun rr4 => ((f1_0 (rr4.1) (rr4.2.1) (rr4.2.2) (1 : Int32) (((1 : Int32) + r) &&& (3 : Int32)) s a b c d).bind fun rr5 => ((f1_0 (rr5.1) (rr5.2.1) (rr5.2.2) (2 : Int32) (((2 : Int32) + r) &&& (3 : Int32)) s a b c d).bind fun rr6 => ((f1_0 (rr6.1) (rr6.2.1) (rr6.2.2) (3 : Int32) (((3 : Int32) + r) &&& (3 : Int32)) s a b c d).bind fun rr7 => ((f3_0 (rr7.1) (rr7.2.1) (rr7.2.2) (0 : Int64) [0, 0, 0, 0] (3 : Int32) (4 : Int32)).bind fun rr10 => (some rr10))))))
def own_post (r s a b c : Int32) (lim : Int64) (rr10 : Int32 × (List Int32) × (List Int32) × (List Int32) × (List Int32) × (List Int32) × (List Int32) × (List Int32) × (List Int32) × (List Int32)) : Option Int32 := ((f12_0 (rr10.1) (rr10.2.1) (rr10.2.2.2.1) (rr10.2.2.2.2.1) (rr10.2.2.2.2.2.1) (rr10.2.2.2.2.2.2.1) (rr10.2.2.2.2.2.2.2.1) (rr10.2.2.2.2.2.2.2.2.1) (rr10.2.2.2.2.2.2.2.2.2) (f2_0 (0 : Int32) s) (f2_0 (2 : Int32) s) lim).bind fun rr13 => ((f18_0 (rr10.2.2.1) (rr10.2.2.2.2.1) (rr13.2.1)).bind fun rr14 => (if (Int32.ofNat rr14.length) = (4 : Int32) then (f0_222 rr14 a b c lim r (rr13.1)) else (some (0 : Int32)))))
def own_law (r s a b c d : Int32) (lim : Int64) : Option Int32 := ((f1_0 [0, 0, 0, 0] [0, 0, 0, 0] [0, 0, 0, 0] (0 : Int32) (((0 : Int32) + r) &&& (3 : Int32)) s a b c d).bind fun rr4 => ((f1_0 (rr4.1) (rr4.2.1) (rr4.2.2) (1 : Int32) (((1 : Int32) + r) &&& (3 : Int32)) s a b c d).bind fun rr5 => ((f1_0 (rr5.1) (rr5.2.1) (rr5.2.2) (2 : Int32) (((2 : Int32) + r) &&& (3 : Int32)) s a b c d).bind fun rr6 => ((f1_0 (rr6.1) (rr6.2.1) (rr6.2.2) (3 : Int32) (((3 : Int32) + r) &&& (3 : Int32)) s a b c d).bind fun rr7 => ((f3_0 (rr7.1) (rr7.2.1) (rr7.2.2) (0 : Int64) [0, 0, 0, 0] (3 : Int32) (4 : Int32)).bind fun rr10 => ((f12_0 (rr10.1) (rr10.2.1) (rr10.2.2.2.1) (rr10.2.2.2.2.1) (rr10.2.2.2.2.2.1) (rr10.2.2.2.2.2.2.1) (rr10.2.2.2.2.2.2.2.1) (rr10.2.2.2.2.2.2.2.2.1) (rr10.2.2.2.2.2.2.2.2.2) (f2_0 (0 : Int32) s) (f2_0 (2 : Int32) s) lim).bind fun rr13 => ((f18_0 (rr10.2.2.1) (rr10.2.2.2.2.1) (rr13.2.1)).bind fun rr14 => (if (Int32.ofNat rr14.length) = (4 : Int32) then (f0_222 rr14 a b c lim r (rr13.1)) else (some (0 : Int32))))))))))
theorem own_split (r s a b c d : Int32) (lim : Int64) : own_law r s a b c d lim = (own_pre r s a b c d).bind (own_post r s a b c lim) := by
  unfold own_law own_pre
  exact own_cb fun _ => own_cb fun _ => own_cb fun _ => own_cb fun _ => own_cb fun _ => rfl
theorem own_fin {r s src snk a b c d u v : Int32} {lim : Int64} {R : Int32 → Int32 → Int32 → Int32 → Int32 → Int32 → Int32 → Int32 → List Int32} {fa ad hd tw l0 l1 l2 l3 re : List Int32} {y : (List Int32) × (List Int32) × (List Int32) × (List Int32)} {L : Int32 → Int32 → Int32 → Int32 → List Int32}
    (hsrc : f2_0 0 s = src) (hsnk : f2_0 2 s = snk)
    (e : f12_0 3 fa hd tw re l0 l1 l2 l3 src snk lim = some (u.toInt64 + v.toInt64, R (a - v) (b - v) (c - u) d v v u 0, y))
    (h18 : ∀ a b c d p q r t, f18_0 ad tw (R a b c d p q r t) = some (L p q r t)) (hlen : ∀ p q r t, Int32.ofNat (L p q r t).length = 4)
    (h222 : ∀ a b c lim sent p q w t, f0_222 (L p q w t) a b c lim r sent = f0_222 [p, q, w, t] a b c lim 0 sent)
    (ha : 0 ≤ a.toInt) (hb : 0 ≤ b.toInt) (hc : 0 ≤ c.toInt) (hl : 0 ≤ lim.toInt)
    (h : u.toInt ≤ lim.toInt ∧ u.toInt ≤ c.toInt ∧ (u.toInt = lim.toInt ∨ u.toInt = c.toInt) ∧ v.toInt ≤ lim.toInt - u.toInt ∧ v.toInt ≤ a.toInt ∧ v.toInt ≤ b.toInt ∧ (v.toInt = lim.toInt - u.toInt ∨ v.toInt = a.toInt ∨ v.toInt = b.toInt)) :
    (Option.some ((3 : Int32), fa, ad, hd, tw, re, l0, l1, l2, l3)).bind (own_post r s a b c lim) = some 1 := by
  rw [Option.bind_some]
  unfold own_post
  dsimp only
  rw [hsrc, hsnk, e, Option.bind_some]
  dsimp only
  rw [h18, Option.bind_some, if_pos (hlen _ _ _ _), h222]
  exact own_tail ha hb hc hl h
theorem own_rot0 (a b c : Int32) (lim sent : Int64) (p q w t : Int32) : f0_222 [p, q, w, t] a b c lim 0 sent = f0_222 [p, q, w, t] a b c lim 0 sent := rfl
theorem own_rot1 (a b c : Int32) (lim sent : Int64) (p q w t : Int32) : f0_222 [q, w, t, p] a b c lim 1 sent = f0_222 [p, q, w, t] a b c lim 0 sent := by
  have e0 : own_get [q, w, t, p] (((0 : Int32) - 1) &&& (3 : Int32)) = some p := rfl
  have g0 : own_get [p, q, w, t] (((0 : Int32) - 0) &&& (3 : Int32)) = some p := rfl
  have e1 : own_get [q, w, t, p] (((1 : Int32) - 1) &&& (3 : Int32)) = some q := rfl
  have g1 : own_get [p, q, w, t] (((1 : Int32) - 0) &&& (3 : Int32)) = some q := rfl
  have e2 : own_get [q, w, t, p] (((2 : Int32) - 1) &&& (3 : Int32)) = some w := rfl
  have g2 : own_get [p, q, w, t] (((2 : Int32) - 0) &&& (3 : Int32)) = some w := rfl
  have e3 : own_get [q, w, t, p] (((3 : Int32) - 1) &&& (3 : Int32)) = some t := rfl
  have g3 : own_get [p, q, w, t] (((3 : Int32) - 0) &&& (3 : Int32)) = some t := rfl
  unfold f0_222
  simp only [e0, g0, e1, g1, e2, g2, e3, g3, Option.bind_some]
theorem own_rot2 (a b c : Int32) (lim sent : Int64) (p q w t : Int32) : f0_222 [w, t, p, q] a b c lim 2 sent = f0_222 [p, q, w, t] a b c lim 0 sent := by
  have e0 : own_get [w, t, p, q] (((0 : Int32) - 2) &&& (3 : Int32)) = some p := rfl
  have g0 : own_get [p, q, w, t] (((0 : Int32) - 0) &&& (3 : Int32)) = some p := rfl
  have e1 : own_get [w, t, p, q] (((1 : Int32) - 2) &&& (3 : Int32)) = some q := rfl
  have g1 : own_get [p, q, w, t] (((1 : Int32) - 0) &&& (3 : Int32)) = some q := rfl
  have e2 : own_get [w, t, p, q] (((2 : Int32) - 2) &&& (3 : Int32)) = some w := rfl
  have g2 : own_get [p, q, w, t] (((2 : Int32) - 0) &&& (3 : Int32)) = some w := rfl
  have e3 : own_get [w, t, p, q] (((3 : Int32) - 2) &&& (3 : Int32)) = some t := rfl
  have g3 : own_get [p, q, w, t] (((3 : Int32) - 0) &&& (3 : Int32)) = some t := rfl
  unfold f0_222
  simp only [e0, g0, e1, g1, e2, g2, e3, g3, Option.bind_some]
theorem own_rot3 (a b c : Int32) (lim sent : Int64) (p q w t : Int32) : f0_222 [t, p, q, w] a b c lim 3 sent = f0_222 [p, q, w, t] a b c lim 0 sent := by
  have e0 : own_get [t, p, q, w] (((0 : Int32) - 3) &&& (3 : Int32)) = some p := rfl
  have g0 : own_get [p, q, w, t] (((0 : Int32) - 0) &&& (3 : Int32)) = some p := rfl
  have e1 : own_get [t, p, q, w] (((1 : Int32) - 3) &&& (3 : Int32)) = some q := rfl
  have g1 : own_get [p, q, w, t] (((1 : Int32) - 0) &&& (3 : Int32)) = some q := rfl
  have e2 : own_get [t, p, q, w] (((2 : Int32) - 3) &&& (3 : Int32)) = some w := rfl
  have g2 : own_get [p, q, w, t] (((2 : Int32) - 0) &&& (3 : Int32)) = some w := rfl
  have e3 : own_get [t, p, q, w] (((3 : Int32) - 3) &&& (3 : Int32)) = some t := rfl
  have g3 : own_get [p, q, w, t] (((3 : Int32) - 0) &&& (3 : Int32)) = some t := rfl
  unfold f0_222
  simp only [e0, g0, e1, g1, e2, g2, e3, g3, Option.bind_some]
theorem own_nn (x : Int32) : 0 ≤ (x &&& (2147483647 : Int32)).toInt := by
  have q := c_mask x 2147483647 31 (by decide) (by decide +kernel)
  omega
theorem own_nnL (x : Int64) : 0 ≤ (x &&& (9223372036854775807 : Int64)).toInt := by
  have q := c_maskL x 9223372036854775807 63 (by decide) (by decide +kernel)
  omega
theorem own_r4 (x : Int32) : x &&& (3 : Int32) = 0 ∨ x &&& (3 : Int32) = 1 ∨ x &&& (3 : Int32) = 2 ∨ x &&& (3 : Int32) = 3 := by
  have q := c_mask x 3 2 (by decide) (by decide +kernel)
  have e0 : (0 : Int32).toInt = 0 := rfl
  have e1 : (1 : Int32).toInt = 1 := rfl
  have e2 : (2 : Int32).toInt = 2 := rfl
  have e3 : (3 : Int32).toInt = 3 := rfl
  rw [← Int32.toInt_inj, ← Int32.toInt_inj, ← Int32.toInt_inj, ← Int32.toInt_inj, e0, e1, e2, e3]
  omega
theorem own_s3 (x : Int32) : (XT.ushr x (2 : Int32)) % (3 : Int32) = 0 ∨ (XT.ushr x (2 : Int32)) % (3 : Int32) = 1 ∨ (XT.ushr x (2 : Int32)) % (3 : Int32) = 2 := by
  have hb : (XT.ushr x (2 : Int32)).toBitVec = x.toBitVec >>> 2 := by
    show x.toUInt32.toBitVec >>> (((2 : Int32) &&& 31).toUInt32.toBitVec % 32) = _
    rw [BitVec.ushiftRight_eq', (by decide +kernel : ((((2 : Int32) &&& 31).toUInt32.toBitVec % 32).toNat = 2))]; rfl
  have h0 : 0 ≤ (XT.ushr x (2 : Int32)).toInt := by
    have i : (XT.ushr x (2 : Int32)).toInt = (XT.ushr x (2 : Int32)).toBitVec.toInt := rfl
    have b := x.toBitVec.isLt
    rw [i, hb, BitVec.toInt_eq_toNat_cond, BitVec.toNat_ushiftRight, Nat.shiftRight_eq_div_pow]
    split <;> omega
  generalize XT.ushr x (2 : Int32) = z at *
  have e0 : (0 : Int32).toInt = 0 := rfl
  have e1 : (1 : Int32).toInt = 1 := rfl
  have e2 : (2 : Int32).toInt = 2 := rfl
  have e3 : (3 : Int32).toInt = 3 := rfl
  have k : (z % 3).toInt = z.toInt % 3 := by rw [Int32.toInt_mod, Int.tmod_eq_emod_of_nonneg h0, e3]
  rw [← Int32.toInt_inj, ← Int32.toInt_inj, ← Int32.toInt_inj, e0, e1, e2]
  omega
theorem own_pre00 (a b c d : Int32) : own_pre 0 0 a b c d = some (3, [0, 2, 5, 8], [0, 3, 1, 7], [1, 2, 0, 2, 2, 1, 0, 1], [2, 6, 0, 5, 7, 3, 1, 4], [a, c, 0, b, 0, 0, 0, d], [0, 0, 0], [0, 0, 0], [0, 0, 0], [0, 0, 0]) := by cbv
theorem own_sh00 : own_Sh (fun a b c d p q r t => [a, c, p, b, t, q, r, d]) [0, 2, 5, 8] [1, 2, 0, 2, 2, 1, 0, 1] [2, 6, 0, 5, 7, 3, 1, 4] 0 2 1 0 3 1 := by
  unfold own_Sh
  exact ⟨fun _ _ _ _ _ _ _ _ => rfl, fun _ _ _ _ _ _ _ _ => rfl, fun _ _ _ _ _ _ _ _ => rfl, fun _ _ _ _ _ _ _ _ => rfl, fun _ _ _ _ _ _ _ _ _ => rfl, fun _ _ _ _ _ _ _ _ _ => rfl, fun _ _ _ _ _ _ _ _ _ => rfl, by decide, by decide, ⟨_, rfl, rfl⟩, ⟨_, rfl, rfl⟩, ⟨_, rfl, rfl⟩, by decide +kernel, by decide +kernel⟩
theorem own_fl00 (a b c d p q r t : Int32) : f18_0 [0, 3, 1, 7] [2, 6, 0, 5, 7, 3, 1, 4] [a, c, p, b, t, q, r, d] = some [p, q, r, t] := by first | cbv | rfl
theorem own_law00 (a b c d : Int32) (lim : Int64) (ha : 0 ≤ a.toInt) (hb : 0 ≤ b.toInt) (hc : 0 ≤ c.toInt) (hl : 0 ≤ lim.toInt) : own_law 0 0 a b c d lim = some 1 := by
  rw [own_split, own_pre00]
  obtain ⟨u, v, y, e, h⟩ := own_ph1 own_sh00 a b c d lim ha hb hc hl
  exact own_fin (src := 0) (snk := 2) (R := fun a b c d p q r t => [a, c, p, b, t, q, r, d]) (L := fun p q r t => [p, q, r, t]) (by decide) (by decide) e own_fl00 (fun _ _ _ _ => rfl) own_rot0 ha hb hc hl h
theorem own_pre01 (a b c d : Int32) : own_pre 0 1 a b c d = some (3, [0, 3, 5, 8], [3, 6, 4, 2], [2, 1, 2, 2, 0, 1, 0, 0], [6, 4, 7, 5, 1, 3, 0, 2], [0, 0, d, a, c, 0, b, 0], [0, 0, 0], [0, 0, 0], [0, 0, 0], [0, 0, 0]) := by cbv
theorem own_sh01 : own_Sh (fun a b c d p q r t => [q, r, d, a, c, p, b, t]) [0, 3, 5, 8] [2, 1, 2, 2, 0, 1, 0, 0] [6, 4, 7, 5, 1, 3, 0, 2] 1 0 2 3 6 4 := by
  unfold own_Sh
  exact ⟨fun _ _ _ _ _ _ _ _ => rfl, fun _ _ _ _ _ _ _ _ => rfl, fun _ _ _ _ _ _ _ _ => rfl, fun _ _ _ _ _ _ _ _ => rfl, fun _ _ _ _ _ _ _ _ _ => rfl, fun _ _ _ _ _ _ _ _ _ => rfl, fun _ _ _ _ _ _ _ _ _ => rfl, by decide, by decide, ⟨_, rfl, rfl⟩, ⟨_, rfl, rfl⟩, ⟨_, rfl, rfl⟩, by decide +kernel, by decide +kernel⟩
theorem own_fl01 (a b c d p q r t : Int32) : f18_0 [3, 6, 4, 2] [6, 4, 7, 5, 1, 3, 0, 2] [q, r, d, a, c, p, b, t] = some [p, q, r, t] := by first | cbv | rfl
theorem own_law01 (a b c d : Int32) (lim : Int64) (ha : 0 ≤ a.toInt) (hb : 0 ≤ b.toInt) (hc : 0 ≤ c.toInt) (hl : 0 ≤ lim.toInt) : own_law 0 1 a b c d lim = some 1 := by
  rw [own_split, own_pre01]
  obtain ⟨u, v, y, e, h⟩ := own_ph1 own_sh01 a b c d lim ha hb hc hl
  exact own_fin (src := 1) (snk := 0) (R := fun a b c d p q r t => [q, r, d, a, c, p, b, t]) (L := fun p q r t => [p, q, r, t]) (by decide) (by decide) e own_fl01 (fun _ _ _ _ => rfl) own_rot0 ha hb hc hl h
theorem own_pre02 (a b c d : Int32) : own_pre 0 2 a b c d = some (3, [0, 3, 6, 8], [6, 1, 7, 5], [2, 1, 1, 0, 2, 0, 0, 1], [6, 3, 5, 1, 7, 2, 0, 4], [0, b, 0, 0, 0, d, a, c], [0, 0, 0], [0, 0, 0], [0, 0, 0], [0, 0, 0]) := by cbv
theorem own_sh02 : own_Sh (fun a b c d p q r t => [p, b, t, q, r, d, a, c]) [0, 3, 6, 8] [2, 1, 1, 0, 2, 0, 0, 1] [6, 3, 5, 1, 7, 2, 0, 4] 2 1 0 6 1 7 := by
  unfold own_Sh
  exact ⟨fun _ _ _ _ _ _ _ _ => rfl, fun _ _ _ _ _ _ _ _ => rfl, fun _ _ _ _ _ _ _ _ => rfl, fun _ _ _ _ _ _ _ _ => rfl, fun _ _ _ _ _ _ _ _ _ => rfl, fun _ _ _ _ _ _ _ _ _ => rfl, fun _ _ _ _ _ _ _ _ _ => rfl, by decide, by decide, ⟨_, rfl, rfl⟩, ⟨_, rfl, rfl⟩, ⟨_, rfl, rfl⟩, by decide +kernel, by decide +kernel⟩
theorem own_fl02 (a b c d p q r t : Int32) : f18_0 [6, 1, 7, 5] [6, 3, 5, 1, 7, 2, 0, 4] [p, b, t, q, r, d, a, c] = some [p, q, r, t] := by first | cbv | rfl
theorem own_law02 (a b c d : Int32) (lim : Int64) (ha : 0 ≤ a.toInt) (hb : 0 ≤ b.toInt) (hc : 0 ≤ c.toInt) (hl : 0 ≤ lim.toInt) : own_law 0 2 a b c d lim = some 1 := by
  rw [own_split, own_pre02]
  obtain ⟨u, v, y, e, h⟩ := own_ph1 own_sh02 a b c d lim ha hb hc hl
  exact own_fin (src := 2) (snk := 1) (R := fun a b c d p q r t => [p, b, t, q, r, d, a, c]) (L := fun p q r t => [p, q, r, t]) (by decide) (by decide) e own_fl02 (fun _ _ _ _ => rfl) own_rot0 ha hb hc hl h
theorem own_pre10 (a b c d : Int32) : own_pre 1 0 a b c d = some (3, [0, 2, 5, 8], [2, 0, 7, 1], [2, 1, 2, 2, 0, 1, 0, 1], [6, 4, 5, 7, 1, 2, 0, 3], [c, a, b, 0, 0, 0, 0, d], [0, 0, 0], [0, 0, 0], [0, 0, 0], [0, 0, 0]) := by cbv
theorem own_sh10 : own_Sh (fun a b c d p q r t => [c, a, b, t, p, q, r, d]) [0, 2, 5, 8] [2, 1, 2, 2, 0, 1, 0, 1] [6, 4, 5, 7, 1, 2, 0, 3] 0 2 1 1 2 0 := by
  unfold own_Sh
  exact ⟨fun _ _ _ _ _ _ _ _ => rfl, fun _ _ _ _ _ _ _ _ => rfl, fun _ _ _ _ _ _ _ _ => rfl, fun _ _ _ _ _ _ _ _ => rfl, fun _ _ _ _ _ _ _ _ _ => rfl, fun _ _ _ _ _ _ _ _ _ => rfl, fun _ _ _ _ _ _ _ _ _ => rfl, by decide, by decide, ⟨_, rfl, rfl⟩, ⟨_, rfl, rfl⟩, ⟨_, rfl, rfl⟩, by decide +kernel, by decide +kernel⟩
theorem own_fl10 (a b c d p q r t : Int32) : f18_0 [2, 0, 7, 1] [6, 4, 5, 7, 1, 2, 0, 3] [c, a, b, t, p, q, r, d] = some [q, r, t, p] := by first | cbv | rfl
theorem own_law10 (a b c d : Int32) (lim : Int64) (ha : 0 ≤ a.toInt) (hb : 0 ≤ b.toInt) (hc : 0 ≤ c.toInt) (hl : 0 ≤ lim.toInt) : own_law 1 0 a b c d lim = some 1 := by
  rw [own_split, own_pre10]
  obtain ⟨u, v, y, e, h⟩ := own_ph1 own_sh10 a b c d lim ha hb hc hl
  exact own_fin (src := 0) (snk := 2) (R := fun a b c d p q r t => [c, a, b, t, p, q, r, d]) (L := fun p q r t => [q, r, t, p]) (by decide) (by decide) e own_fl10 (fun _ _ _ _ => rfl) own_rot1 ha hb hc hl h
theorem own_pre11 (a b c d : Int32) : own_pre 1 1 a b c d = some (3, [0, 3, 5, 8], [5, 3, 2, 4], [2, 1, 2, 0, 2, 0, 0, 1], [5, 3, 6, 1, 7, 0, 2, 4], [0, 0, d, c, a, b, 0, 0], [0, 0, 0], [0, 0, 0], [0, 0, 0], [0, 0, 0]) := by cbv
theorem own_sh11 : own_Sh (fun a b c d p q r t => [q, r, d, c, a, b, t, p]) [0, 3, 5, 8] [2, 1, 2, 0, 2, 0, 0, 1] [5, 3, 6, 1, 7, 0, 2, 4] 1 0 2 4 5 3 := by
  unfold own_Sh
  exact ⟨fun _ _ _ _ _ _ _ _ => rfl, fun _ _ _ _ _ _ _ _ => rfl, fun _ _ _ _ _ _ _ _ => rfl, fun _ _ _ _ _ _ _ _ => rfl, fun _ _ _ _ _ _ _ _ _ => rfl, fun _ _ _ _ _ _ _ _ _ => rfl, fun _ _ _ _ _ _ _ _ _ => rfl, by decide, by decide, ⟨_, rfl, rfl⟩, ⟨_, rfl, rfl⟩, ⟨_, rfl, rfl⟩, by decide +kernel, by decide +kernel⟩
theorem own_fl11 (a b c d p q r t : Int32) : f18_0 [5, 3, 2, 4] [5, 3, 6, 1, 7, 0, 2, 4] [q, r, d, c, a, b, t, p] = some [q, r, t, p] := by first | cbv | rfl
theorem own_law11 (a b c d : Int32) (lim : Int64) (ha : 0 ≤ a.toInt) (hb : 0 ≤ b.toInt) (hc : 0 ≤ c.toInt) (hl : 0 ≤ lim.toInt) : own_law 1 1 a b c d lim = some 1 := by
  rw [own_split, own_pre11]
  obtain ⟨u, v, y, e, h⟩ := own_ph1 own_sh11 a b c d lim ha hb hc hl
  exact own_fin (src := 1) (snk := 0) (R := fun a b c d p q r t => [q, r, d, c, a, b, t, p]) (L := fun p q r t => [q, r, t, p]) (by decide) (by decide) e own_fl11 (fun _ _ _ _ => rfl) own_rot1 ha hb hc hl h
theorem own_pre12 (a b c d : Int32) : own_pre 1 2 a b c d = some (3, [0, 3, 6, 8], [0, 6, 5, 7], [1, 1, 2, 0, 2, 0, 1, 0], [3, 5, 7, 0, 6, 1, 4, 2], [b, 0, 0, 0, 0, d, c, a], [0, 0, 0], [0, 0, 0], [0, 0, 0], [0, 0, 0]) := by cbv
theorem own_sh12 : own_Sh (fun a b c d p q r t => [b, t, p, q, r, d, c, a]) [0, 3, 6, 8] [1, 1, 2, 0, 2, 0, 1, 0] [3, 5, 7, 0, 6, 1, 4, 2] 2 1 0 7 0 6 := by
  unfold own_Sh
  exact ⟨fun _ _ _ _ _ _ _ _ => rfl, fun _ _ _ _ _ _ _ _ => rfl, fun _ _ _ _ _ _ _ _ => rfl, fun _ _ _ _ _ _ _ _ => rfl, fun _ _ _ _ _ _ _ _ _ => rfl, fun _ _ _ _ _ _ _ _ _ => rfl, fun _ _ _ _ _ _ _ _ _ => rfl, by decide, by decide, ⟨_, rfl, rfl⟩, ⟨_, rfl, rfl⟩, ⟨_, rfl, rfl⟩, by decide +kernel, by decide +kernel⟩
theorem own_fl12 (a b c d p q r t : Int32) : f18_0 [0, 6, 5, 7] [3, 5, 7, 0, 6, 1, 4, 2] [b, t, p, q, r, d, c, a] = some [q, r, t, p] := by first | cbv | rfl
theorem own_law12 (a b c d : Int32) (lim : Int64) (ha : 0 ≤ a.toInt) (hb : 0 ≤ b.toInt) (hc : 0 ≤ c.toInt) (hl : 0 ≤ lim.toInt) : own_law 1 2 a b c d lim = some 1 := by
  rw [own_split, own_pre12]
  obtain ⟨u, v, y, e, h⟩ := own_ph1 own_sh12 a b c d lim ha hb hc hl
  exact own_fin (src := 2) (snk := 1) (R := fun a b c d p q r t => [b, t, p, q, r, d, c, a]) (L := fun p q r t => [q, r, t, p]) (by decide) (by decide) e own_fl12 (fun _ _ _ _ => rfl) own_rot1 ha hb hc hl h
theorem own_pre20 (a b c d : Int32) : own_pre 2 0 a b c d = some (3, [0, 2, 5, 8], [0, 6, 1, 4], [2, 1, 2, 0, 2, 0, 1, 1], [5, 3, 6, 1, 7, 0, 2, 4], [c, a, 0, 0, b, 0, d, 0], [0, 0, 0], [0, 0, 0], [0, 0, 0], [0, 0, 0]) := by cbv
theorem own_sh20 : own_Sh (fun a b c d p q r t => [c, a, t, p, b, r, d, q]) [0, 2, 5, 8] [2, 1, 2, 0, 2, 0, 1, 1] [5, 3, 6, 1, 7, 0, 2, 4] 0 2 1 1 4 0 := by
  unfold own_Sh
  exact ⟨fun _ _ _ _ _ _ _ _ => rfl, fun _ _ _ _ _ _ _ _ => rfl, fun _ _ _ _ _ _ _ _ => rfl, fun _ _ _ _ _ _ _ _ => rfl, fun _ _ _ _ _ _ _ _ _ => rfl, fun _ _ _ _ _ _ _ _ _ => rfl, fun _ _ _ _ _ _ _ _ _ => rfl, by decide, by decide, ⟨_, rfl, rfl⟩, ⟨_, rfl, rfl⟩, ⟨_, rfl, rfl⟩, by decide +kernel, by decide +kernel⟩
theorem own_fl20 (a b c d p q r t : Int32) : f18_0 [0, 6, 1, 4] [5, 3, 6, 1, 7, 0, 2, 4] [c, a, t, p, b, r, d, q] = some [r, t, p, q] := by first | cbv | rfl
theorem own_law20 (a b c d : Int32) (lim : Int64) (ha : 0 ≤ a.toInt) (hb : 0 ≤ b.toInt) (hc : 0 ≤ c.toInt) (hl : 0 ≤ lim.toInt) : own_law 2 0 a b c d lim = some 1 := by
  rw [own_split, own_pre20]
  obtain ⟨u, v, y, e, h⟩ := own_ph1 own_sh20 a b c d lim ha hb hc hl
  exact own_fin (src := 0) (snk := 2) (R := fun a b c d p q r t => [c, a, t, p, b, r, d, q]) (L := fun p q r t => [r, t, p, q]) (by decide) (by decide) e own_fl20 (fun _ _ _ _ => rfl) own_rot2 ha hb hc hl h
theorem own_pre21 (a b c d : Int32) : own_pre 2 1 a b c d = some (3, [0, 3, 5, 8], [3, 1, 4, 7], [1, 2, 2, 0, 2, 0, 1, 0], [3, 5, 7, 0, 6, 1, 4, 2], [0, d, 0, c, a, 0, 0, b], [0, 0, 0], [0, 0, 0], [0, 0, 0], [0, 0, 0]) := by cbv
theorem own_sh21 : own_Sh (fun a b c d p q r t => [r, d, q, c, a, t, p, b]) [0, 3, 5, 8] [1, 2, 2, 0, 2, 0, 1, 0] [3, 5, 7, 0, 6, 1, 4, 2] 1 0 2 4 7 3 := by
  unfold own_Sh
  exact ⟨fun _ _ _ _ _ _ _ _ => rfl, fun _ _ _ _ _ _ _ _ => rfl, fun _ _ _ _ _ _ _ _ => rfl, fun _ _ _ _ _ _ _ _ => rfl, fun _ _ _ _ _ _ _ _ _ => rfl, fun _ _ _ _ _ _ _ _ _ => rfl, fun _ _ _ _ _ _ _ _ _ => rfl, by decide, by decide, ⟨_, rfl, rfl⟩, ⟨_, rfl, rfl⟩, ⟨_, rfl, rfl⟩, by decide +kernel, by decide +kernel⟩
theorem own_fl21 (a b c d p q r t : Int32) : f18_0 [3, 1, 4, 7] [3, 5, 7, 0, 6, 1, 4, 2] [r, d, q, c, a, t, p, b] = some [r, t, p, q] := by first | cbv | rfl
theorem own_law21 (a b c d : Int32) (lim : Int64) (ha : 0 ≤ a.toInt) (hb : 0 ≤ b.toInt) (hc : 0 ≤ c.toInt) (hl : 0 ≤ lim.toInt) : own_law 2 1 a b c d lim = some 1 := by
  rw [own_split, own_pre21]
  obtain ⟨u, v, y, e, h⟩ := own_ph1 own_sh21 a b c d lim ha hb hc hl
  exact own_fin (src := 1) (snk := 0) (R := fun a b c d p q r t => [r, d, q, c, a, t, p, b]) (L := fun p q r t => [r, t, p, q]) (by decide) (by decide) e own_fl21 (fun _ _ _ _ => rfl) own_rot2 ha hb hc hl h
theorem own_pre22 (a b c d : Int32) : own_pre 2 2 a b c d = some (3, [0, 3, 6, 8], [6, 4, 7, 2], [1, 2, 1, 2, 0, 0, 1, 0], [4, 7, 5, 6, 0, 2, 3, 1], [0, 0, b, 0, d, 0, c, a], [0, 0, 0], [0, 0, 0], [0, 0, 0], [0, 0, 0]) := by cbv
theorem own_sh22 : own_Sh (fun a b c d p q r t => [t, p, b, r, d, q, c, a]) [0, 3, 6, 8] [1, 2, 1, 2, 0, 0, 1, 0] [4, 7, 5, 6, 0, 2, 3, 1] 2 1 0 7 2 6 := by
  unfold own_Sh
  exact ⟨fun _ _ _ _ _ _ _ _ => rfl, fun _ _ _ _ _ _ _ _ => rfl, fun _ _ _ _ _ _ _ _ => rfl, fun _ _ _ _ _ _ _ _ => rfl, fun _ _ _ _ _ _ _ _ _ => rfl, fun _ _ _ _ _ _ _ _ _ => rfl, fun _ _ _ _ _ _ _ _ _ => rfl, by decide, by decide, ⟨_, rfl, rfl⟩, ⟨_, rfl, rfl⟩, ⟨_, rfl, rfl⟩, by decide +kernel, by decide +kernel⟩
theorem own_fl22 (a b c d p q r t : Int32) : f18_0 [6, 4, 7, 2] [4, 7, 5, 6, 0, 2, 3, 1] [t, p, b, r, d, q, c, a] = some [r, t, p, q] := by first | cbv | rfl
theorem own_law22 (a b c d : Int32) (lim : Int64) (ha : 0 ≤ a.toInt) (hb : 0 ≤ b.toInt) (hc : 0 ≤ c.toInt) (hl : 0 ≤ lim.toInt) : own_law 2 2 a b c d lim = some 1 := by
  rw [own_split, own_pre22]
  obtain ⟨u, v, y, e, h⟩ := own_ph1 own_sh22 a b c d lim ha hb hc hl
  exact own_fin (src := 2) (snk := 1) (R := fun a b c d p q r t => [t, p, b, r, d, q, c, a]) (L := fun p q r t => [r, t, p, q]) (by decide) (by decide) e own_fl22 (fun _ _ _ _ => rfl) own_rot2 ha hb hc hl h
theorem own_pre30 (a b c d : Int32) : own_pre 3 0 a b c d = some (3, [0, 2, 5, 8], [5, 0, 4, 1], [1, 2, 2, 0, 2, 1, 1, 0], [3, 7, 5, 0, 6, 2, 4, 1], [a, c, 0, 0, b, d, 0, 0], [0, 0, 0], [0, 0, 0], [0, 0, 0], [0, 0, 0]) := by cbv
theorem own_sh30 : own_Sh (fun a b c d p q r t => [a, c, t, p, b, d, q, r]) [0, 2, 5, 8] [1, 2, 2, 0, 2, 1, 1, 0] [3, 7, 5, 0, 6, 2, 4, 1] 0 2 1 0 4 1 := by
  unfold own_Sh
  exact ⟨fun _ _ _ _ _ _ _ _ => rfl, fun _ _ _ _ _ _ _ _ => rfl, fun _ _ _ _ _ _ _ _ => rfl, fun _ _ _ _ _ _ _ _ => rfl, fun _ _ _ _ _ _ _ _ _ => rfl, fun _ _ _ _ _ _ _ _ _ => rfl, fun _ _ _ _ _ _ _ _ _ => rfl, by decide, by decide, ⟨_, rfl, rfl⟩, ⟨_, rfl, rfl⟩, ⟨_, rfl, rfl⟩, by decide +kernel, by decide +kernel⟩
theorem own_fl30 (a b c d p q r t : Int32) : f18_0 [5, 0, 4, 1] [3, 7, 5, 0, 6, 2, 4, 1] [a, c, t, p, b, d, q, r] = some [t, p, q, r] := by first | cbv | rfl
theorem own_law30 (a b c d : Int32) (lim : Int64) (ha : 0 ≤ a.toInt) (hb : 0 ≤ b.toInt) (hc : 0 ≤ c.toInt) (hl : 0 ≤ lim.toInt) : own_law 3 0 a b c d lim = some 1 := by
  rw [own_split, own_pre30]
  obtain ⟨u, v, y, e, h⟩ := own_ph1 own_sh30 a b c d lim ha hb hc hl
  exact own_fin (src := 0) (snk := 2) (R := fun a b c d p q r t => [a, c, t, p, b, d, q, r]) (L := fun p q r t => [t, p, q, r]) (by decide) (by decide) e own_fl30 (fun _ _ _ _ => rfl) own_rot3 ha hb hc hl h
theorem own_pre31 (a b c d : Int32) : own_pre 3 1 a b c d = some (3, [0, 3, 5, 8], [0, 3, 7, 4], [2, 2, 1, 2, 0, 0, 1, 0], [5, 7, 4, 6, 2, 0, 3, 1], [d, 0, 0, a, c, 0, 0, b], [0, 0, 0], [0, 0, 0], [0, 0, 0], [0, 0, 0]) := by cbv
theorem own_sh31 : own_Sh (fun a b c d p q r t => [d, q, r, a, c, t, p, b]) [0, 3, 5, 8] [2, 2, 1, 2, 0, 0, 1, 0] [5, 7, 4, 6, 2, 0, 3, 1] 1 0 2 3 7 4 := by
  unfold own_Sh
  exact ⟨fun _ _ _ _ _ _ _ _ => rfl, fun _ _ _ _ _ _ _ _ => rfl, fun _ _ _ _ _ _ _ _ => rfl, fun _ _ _ _ _ _ _ _ => rfl, fun _ _ _ _ _ _ _ _ _ => rfl, fun _ _ _ _ _ _ _ _ _ => rfl, fun _ _ _ _ _ _ _ _ _ => rfl, by decide, by decide, ⟨_, rfl, rfl⟩, ⟨_, rfl, rfl⟩, ⟨_, rfl, rfl⟩, by decide +kernel, by decide +kernel⟩
theorem own_fl31 (a b c d p q r t : Int32) : f18_0 [0, 3, 7, 4] [5, 7, 4, 6, 2, 0, 3, 1] [d, q, r, a, c, t, p, b] = some [t, p, q, r] := by first | cbv | rfl
theorem own_law31 (a b c d : Int32) (lim : Int64) (ha : 0 ≤ a.toInt) (hb : 0 ≤ b.toInt) (hc : 0 ≤ c.toInt) (hl : 0 ≤ lim.toInt) : own_law 3 1 a b c d lim = some 1 := by
  rw [own_split, own_pre31]
  obtain ⟨u, v, y, e, h⟩ := own_ph1 own_sh31 a b c d lim ha hb hc hl
  exact own_fin (src := 1) (snk := 0) (R := fun a b c d p q r t => [d, q, r, a, c, t, p, b]) (L := fun p q r t => [t, p, q, r]) (by decide) (by decide) e own_fl31 (fun _ _ _ _ => rfl) own_rot3 ha hb hc hl h
theorem own_pre32 (a b c d : Int32) : own_pre 3 2 a b c d = some (3, [0, 3, 6, 8], [3, 6, 2, 7], [1, 2, 1, 0, 0, 2, 0, 1], [3, 6, 4, 0, 2, 7, 1, 5], [0, 0, b, d, 0, 0, a, c], [0, 0, 0], [0, 0, 0], [0, 0, 0], [0, 0, 0]) := by cbv
theorem own_sh32 : own_Sh (fun a b c d p q r t => [t, p, b, d, q, r, a, c]) [0, 3, 6, 8] [1, 2, 1, 0, 0, 2, 0, 1] [3, 6, 4, 0, 2, 7, 1, 5] 2 1 0 6 2 7 := by
  unfold own_Sh
  exact ⟨fun _ _ _ _ _ _ _ _ => rfl, fun _ _ _ _ _ _ _ _ => rfl, fun _ _ _ _ _ _ _ _ => rfl, fun _ _ _ _ _ _ _ _ => rfl, fun _ _ _ _ _ _ _ _ _ => rfl, fun _ _ _ _ _ _ _ _ _ => rfl, fun _ _ _ _ _ _ _ _ _ => rfl, by decide, by decide, ⟨_, rfl, rfl⟩, ⟨_, rfl, rfl⟩, ⟨_, rfl, rfl⟩, by decide +kernel, by decide +kernel⟩
theorem own_fl32 (a b c d p q r t : Int32) : f18_0 [3, 6, 2, 7] [3, 6, 4, 0, 2, 7, 1, 5] [t, p, b, d, q, r, a, c] = some [t, p, q, r] := by first | cbv | rfl
theorem own_law32 (a b c d : Int32) (lim : Int64) (ha : 0 ≤ a.toInt) (hb : 0 ≤ b.toInt) (hc : 0 ≤ c.toInt) (hl : 0 ≤ lim.toInt) : own_law 3 2 a b c d lim = some 1 := by
  rw [own_split, own_pre32]
  obtain ⟨u, v, y, e, h⟩ := own_ph1 own_sh32 a b c d lim ha hb hc hl
  exact own_fin (src := 2) (snk := 1) (R := fun a b c d p q r t => [t, p, b, d, q, r, a, c]) (L := fun p q r t => [t, p, q, r]) (by decide) (by decide) e own_fl32 (fun _ _ _ _ => rfl) own_rot3 ha hb hc hl h
theorem plain0 (x0 x1 x2 x3 : Int32) (x4 : Int64) (x6 : Int32) : f0_0 x0 x1 x2 x3 x4 x6 = some 1 := by
  show own_law (x6 &&& (3 : Int32)) ((XT.ushr x6 (2 : Int32)) % (3 : Int32)) (x0 &&& (2147483647 : Int32)) (x1 &&& (2147483647 : Int32)) (x2 &&& (2147483647 : Int32)) (x3 &&& (2147483647 : Int32)) (x4 &&& (9223372036854775807 : Int64)) = some 1
  have ha := own_nn x0
  have hb := own_nn x1
  have hc := own_nn x2
  have hl := own_nnL x4
  rcases own_r4 x6 with h | h | h | h <;> rcases own_s3 x6 with k | k | k <;> rw [h, k]
  · exact own_law00 _ _ _ _ _ ha hb hc hl
  · exact own_law01 _ _ _ _ _ ha hb hc hl
  · exact own_law02 _ _ _ _ _ ha hb hc hl
  · exact own_law10 _ _ _ _ _ ha hb hc hl
  · exact own_law11 _ _ _ _ _ ha hb hc hl
  · exact own_law12 _ _ _ _ _ ha hb hc hl
  · exact own_law20 _ _ _ _ _ ha hb hc hl
  · exact own_law21 _ _ _ _ _ ha hb hc hl
  · exact own_law22 _ _ _ _ _ ha hb hc hl
  · exact own_law30 _ _ _ _ _ ha hb hc hl
  · exact own_law31 _ _ _ _ _ ha hb hc hl
  · exact own_law32 _ _ _ _ _ ha hb hc hl
theorem rm0 (l : Launch) (Z : State) (a0 : Array Value) (hw : ∀ d ∈ tables_1, d.before a0 Z = true) (ws : List Jvm.Cond) (x0 : Int32) (x1 : Int32) (x2 : Int32) (x3 : Int32) (x4 : Int64) (x6 : Int32) (h0 : Heap) : own_Met l Z x code maxLocals ret ws room_1 #[(.int x0), (.int x1), (.int x2), (.int x3), (.long x4), (.int x6)] h0 (fun v h L => v = some (.int 1) ∧ Fr h0.size L) := by
  refine own_body pn0 ?_
  intro p e s m below meth c s₁ C X e0
  exact own_cast (ef0 m x0 x1 x2 x3 x4 x6) (b0_0 hw C (Nat.le_refl h0.size) (1 : Int32) (fun v h L a b c => ⟨c, a⟩) X e0 (Fr.nil _) (Keep.refl h0 []) x0 x1 x2 x3 x4 x6 (plain0 x0 x1 x2 x3 x4 x6))
set_option maxRecDepth 65536 in
set_option maxHeartbeats 40000000 in
theorem comes_1 {Post : Tables → Env → Array Value → State → Outcome → State → Prop} (hpost : ∀ tb e args s v u, (limb_1_1.after args s (.returned v) u = true ∧ limb_1_2.after args s (.returned v) u = true ∧ True) → FrameEnd s (.returned v) u (Jvm.fieldLocs frame_1_writes args s ++ Jvm.arrayLocs frame_1_arrays args s ++ Jvm.staticLocs frame_1_statics s) 72 384 → Post tb e args s (.returned v) u) :
    ArmFor flags0 classFile x code maxLocals ret World_1 tables_1 room_1 Calls_1 rest_1 Pre_1 Post := by
  intro l hfl _ _ p e ha hc hk s m args below hf hA hF happ hP
  obtain ⟨hcalls, hrest, hpre⟩ := hP
  obtain ⟨-, -, -, hnamed, -, -, -, hat⟩ := (Spec.applies_iff hf).mp happ
  obtain ⟨hg, hn⟩ := and_e (Cond.before_iff.mp (show (Jvm.Cond.and given_1 narrow_1).before args s = true from hpre))
  obtain ⟨hcnt, hg0⟩ := and_e hg
  obtain ⟨ha0, hg1⟩ := and_e hg0
  obtain ⟨ha1, hg2⟩ := and_e hg1
  obtain ⟨ha2, hg3⟩ := and_e hg2
  obtain ⟨ha3, hg4⟩ := and_e hg3
  obtain ⟨ha4, hg5⟩ := and_e hg4
  have ha5 := hg5
  obtain ⟨w0, w1, w2, w3, w4, w5, rfl⟩ : ∃ w0 w1 w2 w3 w4 w5 : Value, args = #[w0, w1, w2, w3, w4, w5] := by
    have hs : args.size = 6 := by simpa [Cond.value, given_1] using hcnt
    obtain ⟨L⟩ := args
    match L, hs with
    | [w0, w1, w2, w3, w4, w5], _ => exact ⟨w0, w1, w2, w3, w4, w5, rfl⟩
  have hw := fun d (hd : d ∈ tables_1) => atoms_spec (ws := Jvm.Cond.code x code maxLocals ret :: tables_1) hat d (List.mem_cons_of_mem _ hd)
  obtain ⟨i0, ei0⟩ := is_v ha0
  obtain rfl : w0 = (.int i0) := Option.some.inj ei0
  obtain ⟨i1, ei1⟩ := is_v ha1
  obtain rfl : w1 = (.int i1) := Option.some.inj ei1
  obtain ⟨i2, ei2⟩ := is_v ha2
  obtain rfl : w2 = (.int i2) := Option.some.inj ei2
  obtain ⟨i3, ei3⟩ := is_v ha3
  obtain rfl : w3 = (.int i3) := Option.some.inj ei3
  obtain ⟨i4, ei4⟩ := isL_v ha4
  obtain rfl : w4 = (.long i4) := Option.some.inj ei4
  obtain ⟨i5, ei5⟩ := is_v ha5
  obtain rfl : w5 = (.int i5) := Option.some.inj ei5
  obtain ⟨n, o, h1, h2, h3, _, L, rfl, ⟨rfl, N⟩, hq⟩ := rm0 l s _ hw tables_1 i0 i1 i2 i3 i4 i5 s.heap p e ha hc hk s m _ below hf ((Spec.applies_iff_loose hf).mp happ).1 ⟨rfl, State.Warmed39.refl s, rfl⟩ trivial
  refine ⟨n, _, h1, h2, h3, hpost _ _ _ _ _ _ ⟨Cond.after_iff.mpr rfl, Cond.after_iff.mpr (eq_i res_at (Term.int_eval (1)) rfl), trivial⟩ ⟨hq.1, hq.2.1, (hq.2.2.sift fun y hy => Or.inr (N y hy)).mono (by decide) (by decide)⟩⟩
theorem main_1_1 : Claimed_1_1 := comes_1 fun _ _ _ _ _ _ h hF => ⟨h.1, hF⟩
theorem main_1_2 : Claimed_1_2 := comes_1 fun _ _ _ _ _ _ h hF => ⟨h.2.1, hF⟩
end Jvm.Pilot.@@N@@
namespace Jvm.Pilot.@@N@@
open Jvm Jvm.ClassFile Sem Op Lib Jvm.Free Jvm.Stand Jvm.Pilot.@@N@@.Jvm.D
/-! MADE BY PROGRAM (witnessworld.py) out of the Statement's table words and the real class files: 18 classes; the members and pool entries that the words name. The judged class is class 1, her method 1. -/
namespace start1
open Jvm.ClassFile
def u (s : String) : CpInfo := .utf8 (stringToUtf16 s)
/-- a pool by its gaps: so many unusable entries, then the entry; so many at the end -/
def gap : Nat → List CpInfo → List CpInfo
  | 0, r => r
  | n + 1, r => .unusable :: gap n r
def poolList (es : List (Nat × CpInfo)) (last : Nat) : List CpInfo := es.foldr (fun e r => gap e.1 (e.2 :: r)) (gap last [])
def pool (es : List (Nat × CpInfo)) (last : Nat) : Array CpInfo := ⟨poolList es last⟩
def fileOf (pool : Array CpInfo) (this : Nat) (attrs : Array Attribute := #[]) (ms : Array MethodInfo := #[]) (fl : Nat := 33) (sup : Nat := 0) (ifs : Array Nat := #[]) (fds : Array FieldInfo := #[]) : ClassFile where
  minorVersion := 0
  majorVersion := 65
  constantPool := pool
  accessFlags := fl
  thisClass := this
  superClass := sup
  interfaces := ifs
  fields := fds
  methods := ms
  attributes := attrs
def plain (name : String) (sup : Option ClassId) : Class where
  name := name
  kind := .ordinary
  loader := none
  accessFlags := 33
  super := sup
  interfaces := #[]
  cf := none
  fields := #[]
  methods := #[]
  instanceTypes := #[]
  staticTypes := #[]
  resolved := #[]
  callSites := []
  init := .initialized
  statics := none
  mirror := none

def pool0 : Array CpInfo := pool [(5, u "<init>"), (0, u "()V"), (1, .class_ 10), (1, u "java/lang/Object")] 113

def k0c0 : Code := { maxStack := 0, maxLocals := 1, code := object_method_1_code, exceptionTable := #[], attributes := #[] }
def k0m0 : Method := { name := "<init>", desc := "()V", sig := { parameters := [], returnType := none }, accessFlags := 1, code := some k0c0 }
/-- java/lang/Object -/
def k0 : Class := { plain "java/lang/Object" none with
  accessFlags := 33
  interfaces := #[]
  cf := some (fileOf pool0 8 #[] #[{ accessFlags := 1, nameIndex := 5, descriptorIndex := 6, attributes := #[] }] 33 0 #[] #[])
  fields := #[]
  methods := #[k0m0]
  instanceTypes := #[]
  staticTypes := #[]
  resolved := Array.replicate 124 none
  statics := none }

def pool1 : Array CpInfo := pool [(2, .class_ 4), (1, u "java/lang/Object"), (0, u "<init>"), (0, u "()V"), (0, .integer 2147483647), (2, .long 9223372036854775807), (1, .methodref 13 14), (0, .class_ 15), (0, .nameAndType 16 17), (0, u "com/example/gridfare/gridfare/engine/ResidualNetworkFlowsPinLaw"), (0, u "put"), (0, u "([I[I[IIIIIIII)V"), (0, .class_ 19), (0, u "com/example/gridfare/gridfare/engine/ResidualNetwork"), (0, .methodref 18 21), (0, .nameAndType 5 22), (0, u "(II[I[I[I[J)V"), (0, .methodref 13 24), (0, .nameAndType 25 26), (0, u "node"), (0, u "(II)I"), (0, .methodref 18 28), (0, .nameAndType 29 30), (0, u "sendMaxFlow"), (0, u "(IIJ)J"), (0, .methodref 18 32), (0, .nameAndType 33 34), (0, u "flows"), (0, u "()[I"), (0, .methodref 36 37), (0, .class_ 38), (0, .nameAndType 39 40), (0, u "java/lang/Math"), (0, u "min"), (0, u "(JJ)J"), (2, u "law"), (0, u "(IIIIJI)Z")] 5

def k1m0 : Method := { name := "<init>", desc := "()V", sig := { parameters := [], returnType := none }, accessFlags := 1, code := none }
def k1c1 : Code := { maxStack := 10, maxLocals := 37, code := code, exceptionTable := #[], attributes := #[] }
def k1m1 : Method := { name := "law", desc := "(IIIIJI)Z", sig := { parameters := [.int, .int, .int, .int, .long, .int], returnType := some .boolean }, accessFlags := 9, code := some k1c1 }
def k1c2 : Code := { maxStack := 2, maxLocals := 2, code := method_3_code, exceptionTable := #[], attributes := #[] }
def k1m2 : Method := { name := "node", desc := "(II)I", sig := { parameters := [.int, .int], returnType := some .int }, accessFlags := 10, code := some k1c2 }
def k1c3 : Code := { maxStack := 4, maxLocals := 10, code := method_4_code, exceptionTable := #[], attributes := #[] }
def k1m3 : Method := { name := "put", desc := "([I[I[IIIIIIII)V", sig := { parameters := [(.array .int), (.array .int), (.array .int), .int, .int, .int, .int, .int, .int, .int], returnType := none }, accessFlags := 10, code := some k1c3 }
/-- com/example/gridfare/gridfare/engine/ResidualNetworkFlowsPinLaw -/
def k1 : Class := { plain "com/example/gridfare/gridfare/engine/ResidualNetworkFlowsPinLaw" (some 0) with
  accessFlags := 49
  interfaces := #[]
  cf := some (fileOf pool1 13 #[] #[{ accessFlags := 1, nameIndex := 5, descriptorIndex := 6, attributes := #[] }, { accessFlags := 9, nameIndex := 43, descriptorIndex := 44, attributes := #[] }, { accessFlags := 10, nameIndex := 25, descriptorIndex := 26, attributes := #[] }, { accessFlags := 10, nameIndex := 16, descriptorIndex := 17, attributes := #[] }] 49 2 #[] #[])
  fields := #[]
  methods := #[k1m0, k1m1, k1m2, k1m3]
  instanceTypes := #[]
  staticTypes := #[]
  resolved := Array.replicate 50 none
  statics := none }

def pool2 : Array CpInfo := pool [(1, .methodref 2 3), (0, .class_ 4), (0, .nameAndType 5 6), (0, u "java/lang/Object"), (0, u "<init>"), (0, u "()V"), (0, .fieldref 8 9), (0, .class_ 10), (0, .nameAndType 11 12), (0, u "com/example/gridfare/gridfare/engine/ResidualNetwork"), (0, u "nodes"), (0, u "I"), (0, .fieldref 8 14), (0, .nameAndType 15 16), (0, u "scale"), (0, u "J"), (0, .methodref 18 19), (0, .class_ 20), (0, .nameAndType 21 22), (0, u "java/lang/Math"), (0, u "multiplyExact"), (0, u "(II)I"), (0, .fieldref 8 24), (0, .nameAndType 25 26), (0, u "firstArc"), (0, u "[I"), (0, .fieldref 8 28), (0, .nameAndType 29 26), (0, u "added"), (0, .fieldref 8 31), (0, .nameAndType 32 26), (0, u "head"), (0, .fieldref 8 34), (0, .nameAndType 35 26), (0, u "twin"), (0, .fieldref 8 37), (0, .nameAndType 38 26), (0, u "residual"), (0, .fieldref 8 40), (0, .nameAndType 41 42), (0, u "cost"), (0, u "[J"), (0, .methodref 44 45), (0, .class_ 46), (0, .nameAndType 47 48), (0, u "java/util/Arrays"), (0, u "copyOf"), (0, u "([II)[I"), (0, .fieldref 8 50), (0, .nameAndType 51 26), (0, u "level"), (0, .fieldref 8 53), (0, .nameAndType 54 26), (0, u "levelled"), (0, .fieldref 8 56), (0, .nameAndType 57 26), (0, u "arcInto"), (0, .fieldref 8 59), (0, .nameAndType 60 42), (0, u "price"), (0, .fieldref 8 62), (0, .nameAndType 63 42), (0, u "excess"), (0, .fieldref 8 65), (0, .nameAndType 66 26), (0, u "active"), (0, .fieldref 8 68), (0, .nameAndType 69 70), (0, u "queued"), (0, u "[Z"), (0, .class_ 72), (0, u "com/example/gridfare/gridfare/engine/BucketQueue"), (0, .methodref 71 74), (0, .nameAndType 5 75), (0, u "(II)V"), (0, .fieldref 8 77), (0, .nameAndType 78 79), (0, u "nearestDeficit"), (0, u "Lcom/example/gridfare/gridfare/engine/BucketQueue;"), (0, .fieldref 8 81), (0, .nameAndType 82 70), (0, u "settled"), (0, .fieldref 8 84), (0, .nameAndType 85 42), (0, u "potential"), (0, .class_ 87), (0, u "com/example/gridfare/gridfare/engine/LoweringTree"), (0, .methodref 86 89), (0, .nameAndType 5 90), (0, u "(I)V"), (0, .fieldref 8 92), (0, .nameAndType 93 94), (0, u "lowering"), (0, u "Lcom/example/gridfare/gridfare/engine/LoweringTree;"), (0, .fieldref 8 96), (0, .nameAndType 97 26), (0, u "currentArc"), (0, .methodref 8 99), (0, .nameAndType 100 101), (0, u "levelFrom"), (0, u "(II)Z"), (0, .methodref 8 103), (0, .nameAndType 104 105), (0, u "sendBlockingFlow"), (0, u "(IIJ)J"), (3, u "(JJ)J"), (32, .methodref 44 143), (0, .nameAndType 144 145), (0, u "fill"), (0, u "([II)V"), (0, .methodref 147 148), (0, .class_ 149), (0, .nameAndType 150 151), (0, u "java/lang/System"), (0, u "arraycopy"), (0, u "(Ljava/lang/Object;ILjava/lang/Object;II)V"), (0, .methodref 8 153), (0, .nameAndType 154 155), (0, u "sendAlongPath"), (0, u "(IIJ)I"), (0, .methodref 18 157), (0, .nameAndType 158 109), (0, u "min"), (0, .methodref 8 160), (0, .nameAndType 161 75), (0, u "push"), (10, u "activeFirst"), (2, u "activeCount"), (80, u "NONE"), (2, u "SCALING_BITS"), (1, u "RELABELS_PER_UPDATE"), (1, u "PASSES_BEFORE_RETEST"), (0, u "TEST_LOOKS_PER_ARC"), (0, u "MOST_SCALED_COST"), (0, u "LOWEST_PRICE"), (0, u "(II[I[I[I[J)V"), (5, u "sendMaxFlow"), (2, u "flows"), (0, u "()[I")] 21

def k2c0 : Code := { maxStack := 6, maxLocals := 12, code := prog_42_method_1_code, exceptionTable := #[], attributes := #[] }
def k2m0 : Method := { name := "<init>", desc := "(II[I[I[I[J)V", sig := { parameters := [.int, .int, (.array .int), (.array .int), (.array .int), (.array .long)], returnType := none }, accessFlags := 0, code := some k2c0 }
def k2c1 : Code := { maxStack := 9, maxLocals := 7, code := prog_42_method_2_code, exceptionTable := #[], attributes := #[] }
def k2m1 : Method := { name := "sendMaxFlow", desc := "(IIJ)J", sig := { parameters := [.int, .int, .long], returnType := some .long }, accessFlags := 0, code := some k2c1 }
def k2c2 : Code := { maxStack := 6, maxLocals := 3, code := prog_42_method_5_code, exceptionTable := #[], attributes := #[] }
def k2m2 : Method := { name := "flows", desc := "()[I", sig := { parameters := [], returnType := some (.array .int) }, accessFlags := 0, code := some k2c2 }
def k2c3 : Code := { maxStack := 4, maxLocals := 8, code := prog_42_method_6_code, exceptionTable := #[], attributes := #[] }
def k2m3 : Method := { name := "levelFrom", desc := "(II)Z", sig := { parameters := [.int, .int], returnType := some .boolean }, accessFlags := 2, code := some k2c3 }
def k2c4 : Code := { maxStack := 9, maxLocals := 10, code := prog_42_method_7_code, exceptionTable := #[], attributes := #[] }
def k2m4 : Method := { name := "sendBlockingFlow", desc := "(IIJ)J", sig := { parameters := [.int, .int, .long], returnType := some .long }, accessFlags := 2, code := some k2c4 }
def k2c5 : Code := { maxStack := 5, maxLocals := 9, code := prog_42_method_8_code, exceptionTable := #[], attributes := #[] }
def k2m5 : Method := { name := "sendAlongPath", desc := "(IIJ)I", sig := { parameters := [.int, .int, .long], returnType := some .int }, accessFlags := 2, code := some k2c5 }
def k2c6 : Code := { maxStack := 4, maxLocals := 3, code := prog_42_method_20_code, exceptionTable := #[], attributes := #[] }
def k2m6 : Method := { name := "push", desc := "(II)V", sig := { parameters := [.int, .int], returnType := none }, accessFlags := 2, code := some k2c6 }
/-- com/example/gridfare/gridfare/engine/ResidualNetwork -/
def k2 : Class := { plain "com/example/gridfare/gridfare/engine/ResidualNetwork" (some 0) with
  accessFlags := 48
  interfaces := #[]
  cf := some (fileOf pool2 8 #[] #[{ accessFlags := 0, nameIndex := 5, descriptorIndex := 267, attributes := #[] }, { accessFlags := 0, nameIndex := 273, descriptorIndex := 105, attributes := #[] }, { accessFlags := 0, nameIndex := 276, descriptorIndex := 277, attributes := #[] }, { accessFlags := 2, nameIndex := 100, descriptorIndex := 101, attributes := #[] }, { accessFlags := 2, nameIndex := 104, descriptorIndex := 105, attributes := #[] }, { accessFlags := 2, nameIndex := 154, descriptorIndex := 155, attributes := #[] }, { accessFlags := 2, nameIndex := 161, descriptorIndex := 75, attributes := #[] }] 48 2 #[] #[{ accessFlags := 26, nameIndex := 256, descriptorIndex := 12, attributes := #[] }, { accessFlags := 26, nameIndex := 259, descriptorIndex := 12, attributes := #[] }, { accessFlags := 26, nameIndex := 261, descriptorIndex := 12, attributes := #[] }, { accessFlags := 26, nameIndex := 263, descriptorIndex := 12, attributes := #[] }, { accessFlags := 26, nameIndex := 264, descriptorIndex := 12, attributes := #[] }, { accessFlags := 26, nameIndex := 265, descriptorIndex := 16, attributes := #[] }, { accessFlags := 26, nameIndex := 266, descriptorIndex := 16, attributes := #[] }, { accessFlags := 18, nameIndex := 11, descriptorIndex := 12, attributes := #[] }, { accessFlags := 18, nameIndex := 15, descriptorIndex := 16, attributes := #[] }, { accessFlags := 18, nameIndex := 25, descriptorIndex := 26, attributes := #[] }, { accessFlags := 18, nameIndex := 29, descriptorIndex := 26, attributes := #[] }, { accessFlags := 18, nameIndex := 32, descriptorIndex := 26, attributes := #[] }, { accessFlags := 18, nameIndex := 35, descriptorIndex := 26, attributes := #[] }, { accessFlags := 18, nameIndex := 38, descriptorIndex := 26, attributes := #[] }, { accessFlags := 18, nameIndex := 41, descriptorIndex := 42, attributes := #[] }, { accessFlags := 18, nameIndex := 51, descriptorIndex := 26, attributes := #[] }, { accessFlags := 18, nameIndex := 54, descriptorIndex := 26, attributes := #[] }, { accessFlags := 18, nameIndex := 57, descriptorIndex := 26, attributes := #[] }, { accessFlags := 18, nameIndex := 60, descriptorIndex := 42, attributes := #[] }, { accessFlags := 18, nameIndex := 63, descriptorIndex := 42, attributes := #[] }, { accessFlags := 18, nameIndex := 66, descriptorIndex := 26, attributes := #[] }, { accessFlags := 18, nameIndex := 69, descriptorIndex := 70, attributes := #[] }, { accessFlags := 2, nameIndex := 172, descriptorIndex := 12, attributes := #[] }, { accessFlags := 2, nameIndex := 175, descriptorIndex := 12, attributes := #[] }, { accessFlags := 18, nameIndex := 78, descriptorIndex := 79, attributes := #[] }, { accessFlags := 18, nameIndex := 82, descriptorIndex := 70, attributes := #[] }, { accessFlags := 18, nameIndex := 85, descriptorIndex := 42, attributes := #[] }, { accessFlags := 18, nameIndex := 93, descriptorIndex := 94, attributes := #[] }, { accessFlags := 18, nameIndex := 97, descriptorIndex := 26, attributes := #[] }])
  fields := #[{ name := "NONE", type := .int, accessFlags := 26, slot := 0, constantValue := 0 }, { name := "SCALING_BITS", type := .int, accessFlags := 26, slot := 1, constantValue := 0 }, { name := "RELABELS_PER_UPDATE", type := .int, accessFlags := 26, slot := 2, constantValue := 0 }, { name := "PASSES_BEFORE_RETEST", type := .int, accessFlags := 26, slot := 3, constantValue := 0 }, { name := "TEST_LOOKS_PER_ARC", type := .int, accessFlags := 26, slot := 4, constantValue := 0 }, { name := "MOST_SCALED_COST", type := .long, accessFlags := 26, slot := 5, constantValue := 0 }, { name := "LOWEST_PRICE", type := .long, accessFlags := 26, slot := 6, constantValue := 0 }, { name := "nodes", type := .int, accessFlags := 18, slot := 0, constantValue := 0 }, { name := "scale", type := .long, accessFlags := 18, slot := 1, constantValue := 0 }, { name := "firstArc", type := (.array .int), accessFlags := 18, slot := 2, constantValue := 0 }, { name := "added", type := (.array .int), accessFlags := 18, slot := 3, constantValue := 0 }, { name := "head", type := (.array .int), accessFlags := 18, slot := 4, constantValue := 0 }, { name := "twin", type := (.array .int), accessFlags := 18, slot := 5, constantValue := 0 }, { name := "residual", type := (.array .int), accessFlags := 18, slot := 6, constantValue := 0 }, { name := "cost", type := (.array .long), accessFlags := 18, slot := 7, constantValue := 0 }, { name := "level", type := (.array .int), accessFlags := 18, slot := 8, constantValue := 0 }, { name := "levelled", type := (.array .int), accessFlags := 18, slot := 9, constantValue := 0 }, { name := "arcInto", type := (.array .int), accessFlags := 18, slot := 10, constantValue := 0 }, { name := "price", type := (.array .long), accessFlags := 18, slot := 11, constantValue := 0 }, { name := "excess", type := (.array .long), accessFlags := 18, slot := 12, constantValue := 0 }, { name := "active", type := (.array .int), accessFlags := 18, slot := 13, constantValue := 0 }, { name := "queued", type := (.array .boolean), accessFlags := 18, slot := 14, constantValue := 0 }, { name := "activeFirst", type := .int, accessFlags := 2, slot := 15, constantValue := 0 }, { name := "activeCount", type := .int, accessFlags := 2, slot := 16, constantValue := 0 }, { name := "nearestDeficit", type := (.object "com/example/gridfare/gridfare/engine/BucketQueue"), accessFlags := 18, slot := 17, constantValue := 0 }, { name := "settled", type := (.array .boolean), accessFlags := 18, slot := 18, constantValue := 0 }, { name := "potential", type := (.array .long), accessFlags := 18, slot := 19, constantValue := 0 }, { name := "lowering", type := (.object "com/example/gridfare/gridfare/engine/LoweringTree"), accessFlags := 18, slot := 20, constantValue := 0 }, { name := "currentArc", type := (.array .int), accessFlags := 18, slot := 21, constantValue := 0 }]
  methods := #[k2m0, k2m1, k2m2, k2m3, k2m4, k2m5, k2m6]
  instanceTypes := #[.int, .long, (.array .int), (.array .int), (.array .int), (.array .int), (.array .int), (.array .long), (.array .int), (.array .int), (.array .int), (.array .long), (.array .long), (.array .int), (.array .boolean), .int, .int, (.object "com/example/gridfare/gridfare/engine/BucketQueue"), (.array .boolean), (.array .long), (.object "com/example/gridfare/gridfare/engine/LoweringTree"), (.array .int)]
  staticTypes := #[.int, .int, .int, .int, .int, .long, .long]
  resolved := Array.replicate 299 none
  statics := none }

def pool3 : Array CpInfo := pool [(1, .class_ 2), (0, u "java/lang/Math"), (1, .class_ 6), (1, u "java/lang/Object"), (0, u "<init>"), (0, u "()V"), (89, .class_ 100), (1, u "java/lang/Math$RandomNumberGeneratorHolder"), (19, u "multiplyExact"), (0, u "(JJ)J"), (50, u "negativeZeroFloatBits"), (0, u "J"), (2, u "negativeZeroDoubleBits"), (24, u "min"), (43, u "$assertionsDisabled"), (0, u "Z"), (88, u "(II)I"), (2, u "twoToTheDoubleScaleDown"), (0, u "D"), (4, u "twoToTheDoubleScaleUp"), (9, u "E"), (3, u "PI"), (2, u "TAU"), (2, u "DEGREES_TO_RADIANS"), (0, u "RADIANS_TO_DEGREES")] 94

def k3m0 : Method := { name := "<init>", desc := "()V", sig := { parameters := [], returnType := none }, accessFlags := 2, code := none }
def k3c1 : Code := { maxStack := 4, maxLocals := 4, code := jdk_29_method_28_code, exceptionTable := #[], attributes := #[] }
def k3m1 : Method := { name := "multiplyExact", desc := "(II)I", sig := { parameters := [.int, .int], returnType := some .int }, accessFlags := 9, code := some k3c1 }
def k3c2 : Code := { maxStack := 2, maxLocals := 2, code := jdk_29_method_69_code, exceptionTable := #[], attributes := #[] }
def k3m2 : Method := { name := "min", desc := "(II)I", sig := { parameters := [.int, .int], returnType := some .int }, accessFlags := 9, code := some k3c2 }
def k3c3 : Code := { maxStack := 4, maxLocals := 4, code := jdk_29_method_70_code, exceptionTable := #[], attributes := #[] }
def k3m3 : Method := { name := "min", desc := "(JJ)J", sig := { parameters := [.long, .long], returnType := some .long }, accessFlags := 9, code := some k3c3 }
/-- java/lang/Math -/
def k3 : Class := { plain "java/lang/Math" (some 0) with
  accessFlags := 49
  interfaces := #[]
  cf := some (fileOf pool3 1 #[.nestMembers #[98]] #[{ accessFlags := 2, nameIndex := 7, descriptorIndex := 8, attributes := #[] }, { accessFlags := 9, nameIndex := 120, descriptorIndex := 335, attributes := #[] }, { accessFlags := 9, nameIndex := 201, descriptorIndex := 335, attributes := #[] }, { accessFlags := 9, nameIndex := 201, descriptorIndex := 121, attributes := #[] }] 49 4 #[] #[{ accessFlags := 25, nameIndex := 354, descriptorIndex := 339, attributes := #[] }, { accessFlags := 25, nameIndex := 358, descriptorIndex := 339, attributes := #[] }, { accessFlags := 25, nameIndex := 361, descriptorIndex := 339, attributes := #[] }, { accessFlags := 26, nameIndex := 364, descriptorIndex := 339, attributes := #[] }, { accessFlags := 26, nameIndex := 365, descriptorIndex := 339, attributes := #[] }, { accessFlags := 26, nameIndex := 172, descriptorIndex := 173, attributes := #[] }, { accessFlags := 26, nameIndex := 176, descriptorIndex := 173, attributes := #[] }, { accessFlags := 8, nameIndex := 344, descriptorIndex := 339, attributes := #[] }, { accessFlags := 8, nameIndex := 338, descriptorIndex := 339, attributes := #[] }, { accessFlags := 4120, nameIndex := 245, descriptorIndex := 246, attributes := #[] }])
  fields := #[{ name := "E", type := .double, accessFlags := 25, slot := 0, constantValue := 0 }, { name := "PI", type := .double, accessFlags := 25, slot := 1, constantValue := 0 }, { name := "TAU", type := .double, accessFlags := 25, slot := 2, constantValue := 0 }, { name := "DEGREES_TO_RADIANS", type := .double, accessFlags := 26, slot := 3, constantValue := 0 }, { name := "RADIANS_TO_DEGREES", type := .double, accessFlags := 26, slot := 4, constantValue := 0 }, { name := "negativeZeroFloatBits", type := .long, accessFlags := 26, slot := 5, constantValue := 0 }, { name := "negativeZeroDoubleBits", type := .long, accessFlags := 26, slot := 6, constantValue := 0 }, { name := "twoToTheDoubleScaleUp", type := .double, accessFlags := 8, slot := 7, constantValue := 0 }, { name := "twoToTheDoubleScaleDown", type := .double, accessFlags := 8, slot := 8, constantValue := 0 }, { name := "$assertionsDisabled", type := .boolean, accessFlags := 4120, slot := 9, constantValue := 0 }]
  methods := #[k3m0, k3m1, k3m2, k3m3]
  instanceTypes := #[]
  staticTypes := #[.double, .double, .double, .double, .double, .long, .long, .double, .double, .boolean]
  resolved := Array.replicate 460 none
  statics := none }

def pool4 : Array CpInfo := pool [(2, .class_ 4), (1, u "java/lang/Object"), (0, u "<init>"), (0, u "()V"), (7, .class_ 16), (1, u "java/util/Arrays"), (57, .class_ 76), (1, u "java/util/Arrays$NaturalOrder"), (36, .class_ 115), (1, u "java/util/Arrays$LegacyMergeSort"), (1, u "Z"), (32, .methodref 151 152), (0, .class_ 153), (0, .nameAndType 154 155), (0, u "java/lang/System"), (0, u "arraycopy"), (0, u "(Ljava/lang/Object;ILjava/lang/Object;II)V"), (146, u "copyOf"), (1, .methodref 305 306), (0, .class_ 307), (0, .nameAndType 308 309), (0, u "java/lang/Math"), (0, u "min"), (0, u "(II)I"), (65, .class_ 376), (0, u "java/util/Arrays$ArrayList"), (68, u "$assertionsDisabled"), (269, u "MIN_ARRAY_SORT_GRAN"), (0, u "I"), (2, u "INSERTIONSORT_THRESHOLD"), (120, u "fill"), (4, u "([II)V"), (25, u "([II)[I"), (103, .class_ 976), (0, u "java/util/Arrays$ArrayItr")] 52

def k4m0 : Method := { name := "<init>", desc := "()V", sig := { parameters := [], returnType := none }, accessFlags := 2, code := none }
def k4c1 : Code := { maxStack := 3, maxLocals := 4, code := jdk_65_method_103_code, exceptionTable := #[], attributes := #[] }
def k4m1 : Method := { name := "fill", desc := "([II)V", sig := { parameters := [(.array .int), .int], returnType := none }, accessFlags := 9, code := some k4c1 }
def k4c2 : Code := { maxStack := 6, maxLocals := 3, code := jdk_65_method_123_code, exceptionTable := #[], attributes := #[] }
def k4m2 : Method := { name := "copyOf", desc := "([II)[I", sig := { parameters := [(.array .int), .int], returnType := some (.array .int) }, accessFlags := 9, code := some k4c2 }
/-- java/util/Arrays -/
def k4 : Class := { plain "java/util/Arrays" (some 0) with
  accessFlags := 49
  interfaces := #[]
  cf := some (fileOf pool4 14 #[.nestMembers #[975, 375, 113, 74]] #[{ accessFlags := 2, nameIndex := 5, descriptorIndex := 6, attributes := #[] }, { accessFlags := 9, nameIndex := 840, descriptorIndex := 845, attributes := #[] }, { accessFlags := 9, nameIndex := 302, descriptorIndex := 871, attributes := #[] }] 49 2 #[] #[{ accessFlags := 26, nameIndex := 715, descriptorIndex := 716, attributes := #[] }, { accessFlags := 26, nameIndex := 719, descriptorIndex := 716, attributes := #[] }, { accessFlags := 4120, nameIndex := 445, descriptorIndex := 117, attributes := #[] }])
  fields := #[{ name := "MIN_ARRAY_SORT_GRAN", type := .int, accessFlags := 26, slot := 0, constantValue := 0 }, { name := "INSERTIONSORT_THRESHOLD", type := .int, accessFlags := 26, slot := 1, constantValue := 0 }, { name := "$assertionsDisabled", type := .boolean, accessFlags := 4120, slot := 2, constantValue := 0 }]
  methods := #[k4m0, k4m1, k4m2]
  instanceTypes := #[]
  staticTypes := #[.int, .int, .boolean]
  resolved := Array.replicate 1029 none
  statics := none }

def pool5 : Array CpInfo := pool [(2, .class_ 4), (1, u "java/lang/Object"), (0, u "<init>"), (0, u "()V"), (1, .class_ 10), (1, u "java/lang/System"), (0, u "allowSecurityManager"), (0, u "I"), (16, u "cons"), (0, u "Ljava/io/Console;"), (77, .class_ 110), (1, u "java/lang/System$CallersHolder"), (43, u "initialErrStream"), (0, u "Ljava/io/PrintStream;"), (19, u "security"), (0, u "Ljava/lang/SecurityManager;"), (31, .class_ 209), (0, u "java/lang/System$1"), (7, u "props"), (0, u "Ljava/util/Properties;"), (2, u "lineSeparator"), (0, u "Ljava/lang/String;"), (96, .class_ 321), (1, u "java/lang/System$LoggerFinder"), (5, .class_ 328), (0, u "java/lang/System$Logger"), (67, u "err"), (2, u "out"), (91, u "notSupportedJnuEncoding"), (15, u "in"), (17, u "initialIn"), (0, u "Ljava/io/InputStream;"), (35, u "bootLayer"), (0, u "Ljava/lang/ModuleLayer;"), (99, .class_ 664), (0, u "java/lang/System$2"), (9, u "NEVER"), (2, u "MAYBE"), (49, u "arraycopy"), (0, u "(Ljava/lang/Object;ILjava/lang/Object;II)V"), (72, .class_ 802), (0, u "java/lang/System$Logger$Level")] 31

def k5m0 : Method := { name := "<init>", desc := "()V", sig := { parameters := [], returnType := none }, accessFlags := 2, code := none }
def k5m1 : Method := { name := "arraycopy", desc := "(Ljava/lang/Object;ILjava/lang/Object;II)V", sig := { parameters := [(.object "java/lang/Object"), .int, (.object "java/lang/Object"), .int, .int], returnType := none }, accessFlags := 265, code := none }
/-- java/lang/System -/
def k5 : Class := { plain "java/lang/System" (some 0) with
  accessFlags := 49
  interfaces := #[]
  cf := some (fileOf pool5 8 #[.nestMembers #[319, 327, 801, 108, 663, 208]] #[{ accessFlags := 2, nameIndex := 5, descriptorIndex := 6, attributes := #[] }, { accessFlags := 265, nameIndex := 727, descriptorIndex := 728, attributes := #[] }] 49 2 #[] #[{ accessFlags := 25, nameIndex := 507, descriptorIndex := 526, attributes := #[] }, { accessFlags := 25, nameIndex := 399, descriptorIndex := 155, attributes := #[] }, { accessFlags := 25, nameIndex := 396, descriptorIndex := 155, attributes := #[] }, { accessFlags := 10, nameIndex := 525, descriptorIndex := 526, attributes := #[] }, { accessFlags := 26, nameIndex := 674, descriptorIndex := 12, attributes := #[] }, { accessFlags := 26, nameIndex := 677, descriptorIndex := 12, attributes := #[] }, { accessFlags := 10, nameIndex := 11, descriptorIndex := 12, attributes := #[] }, { accessFlags := 74, nameIndex := 175, descriptorIndex := 176, attributes := #[] }, { accessFlags := 10, nameIndex := 491, descriptorIndex := 222, attributes := #[] }, { accessFlags := 74, nameIndex := 29, descriptorIndex := 30, attributes := #[] }, { accessFlags := 74, nameIndex := 154, descriptorIndex := 155, attributes := #[] }, { accessFlags := 10, nameIndex := 217, descriptorIndex := 218, attributes := #[] }, { accessFlags := 10, nameIndex := 221, descriptorIndex := 222, attributes := #[] }, { accessFlags := 8, nameIndex := 562, descriptorIndex := 563, attributes := #[] }])
  fields := #[{ name := "in", type := (.object "java/io/InputStream"), accessFlags := 25, slot := 0, constantValue := 0 }, { name := "out", type := (.object "java/io/PrintStream"), accessFlags := 25, slot := 1, constantValue := 0 }, { name := "err", type := (.object "java/io/PrintStream"), accessFlags := 25, slot := 2, constantValue := 0 }, { name := "initialIn", type := (.object "java/io/InputStream"), accessFlags := 10, slot := 3, constantValue := 0 }, { name := "NEVER", type := .int, accessFlags := 26, slot := 4, constantValue := 0 }, { name := "MAYBE", type := .int, accessFlags := 26, slot := 5, constantValue := 0 }, { name := "allowSecurityManager", type := .int, accessFlags := 10, slot := 6, constantValue := 0 }, { name := "security", type := (.object "java/lang/SecurityManager"), accessFlags := 74, slot := 7, constantValue := 0 }, { name := "notSupportedJnuEncoding", type := (.object "java/lang/String"), accessFlags := 10, slot := 8, constantValue := 0 }, { name := "cons", type := (.object "java/io/Console"), accessFlags := 74, slot := 9, constantValue := 0 }, { name := "initialErrStream", type := (.object "java/io/PrintStream"), accessFlags := 74, slot := 10, constantValue := 0 }, { name := "props", type := (.object "java/util/Properties"), accessFlags := 10, slot := 11, constantValue := 0 }, { name := "lineSeparator", type := (.object "java/lang/String"), accessFlags := 10, slot := 12, constantValue := 0 }, { name := "bootLayer", type := (.object "java/lang/ModuleLayer"), accessFlags := 8, slot := 13, constantValue := 0 }]
  methods := #[k5m0, k5m1]
  instanceTypes := #[]
  staticTypes := #[(.object "java/io/InputStream"), (.object "java/io/PrintStream"), (.object "java/io/PrintStream"), (.object "java/io/InputStream"), .int, .int, .int, (.object "java/lang/SecurityManager"), (.object "java/lang/String"), (.object "java/io/Console"), (.object "java/io/PrintStream"), (.object "java/util/Properties"), (.object "java/lang/String"), (.object "java/lang/ModuleLayer")]
  resolved := Array.replicate 834 none
  statics := none }

def pool6 : Array CpInfo := pool [(1, .methodref 2 3), (0, .class_ 4), (0, .nameAndType 5 6), (0, u "java/lang/Object"), (0, u "<init>"), (0, u "()V"), (0, .fieldref 8 9), (0, .class_ 10), (0, .nameAndType 11 12), (0, u "com/example/gridfare/gridfare/engine/BucketQueue"), (0, u "first"), (0, u "[I"), (0, .fieldref 8 14), (0, .nameAndType 15 12), (0, u "next"), (0, .fieldref 8 17), (0, .nameAndType 18 12), (0, u "previous"), (0, .fieldref 8 20), (0, .nameAndType 21 12), (0, u "distance"), (0, .methodref 23 24), (0, .class_ 25), (0, .nameAndType 26 27), (0, u "java/util/Arrays"), (0, u "fill"), (0, u "([II)V"), (2, u "size"), (0, u "I"), (6, u "furthest"), (8, u "nearest"), (3, u "NONE"), (2, u "(II)V")] 14

def k6c0 : Code := { maxStack := 3, maxLocals := 3, code := prog_37_method_1_code, exceptionTable := #[], attributes := #[] }
def k6m0 : Method := { name := "<init>", desc := "(II)V", sig := { parameters := [.int, .int], returnType := none }, accessFlags := 0, code := some k6c0 }
/-- com/example/gridfare/gridfare/engine/BucketQueue -/
def k6 : Class := { plain "com/example/gridfare/gridfare/engine/BucketQueue" (some 0) with
  accessFlags := 48
  interfaces := #[]
  cf := some (fileOf pool6 8 #[] #[{ accessFlags := 0, nameIndex := 5, descriptorIndex := 54, attributes := #[] }] 48 2 #[] #[{ accessFlags := 26, nameIndex := 51, descriptorIndex := 31, attributes := #[] }, { accessFlags := 18, nameIndex := 11, descriptorIndex := 12, attributes := #[] }, { accessFlags := 18, nameIndex := 15, descriptorIndex := 12, attributes := #[] }, { accessFlags := 18, nameIndex := 18, descriptorIndex := 12, attributes := #[] }, { accessFlags := 18, nameIndex := 21, descriptorIndex := 12, attributes := #[] }, { accessFlags := 2, nameIndex := 30, descriptorIndex := 31, attributes := #[] }, { accessFlags := 2, nameIndex := 47, descriptorIndex := 31, attributes := #[] }, { accessFlags := 2, nameIndex := 38, descriptorIndex := 31, attributes := #[] }])
  fields := #[{ name := "NONE", type := .int, accessFlags := 26, slot := 0, constantValue := 0 }, { name := "first", type := (.array .int), accessFlags := 18, slot := 0, constantValue := 0 }, { name := "next", type := (.array .int), accessFlags := 18, slot := 1, constantValue := 0 }, { name := "previous", type := (.array .int), accessFlags := 18, slot := 2, constantValue := 0 }, { name := "distance", type := (.array .int), accessFlags := 18, slot := 3, constantValue := 0 }, { name := "size", type := .int, accessFlags := 2, slot := 4, constantValue := 0 }, { name := "nearest", type := .int, accessFlags := 2, slot := 5, constantValue := 0 }, { name := "furthest", type := .int, accessFlags := 2, slot := 6, constantValue := 0 }]
  methods := #[k6m0]
  instanceTypes := #[(.array .int), (.array .int), (.array .int), (.array .int), .int, .int, .int]
  staticTypes := #[.int]
  resolved := Array.replicate 69 none
  statics := none }

def pool7 : Array CpInfo := pool [(1, .methodref 2 3), (0, .class_ 4), (0, .nameAndType 5 6), (0, u "java/lang/Object"), (0, u "<init>"), (0, u "()V"), (0, .fieldref 8 9), (0, .class_ 10), (0, .nameAndType 11 12), (0, u "com/example/gridfare/gridfare/engine/LoweringTree"), (0, u "root"), (0, u "I"), (0, .fieldref 8 14), (0, .nameAndType 15 16), (0, u "following"), (0, u "[I"), (0, .fieldref 8 18), (0, .nameAndType 19 16), (0, u "preceding"), (0, .fieldref 8 21), (0, .nameAndType 22 16), (0, u "depth"), (0, .methodref 8 24), (0, .nameAndType 25 6), (0, u "plant"), (4, u "OUT"), (2, u "(I)V")] 7

def k7c0 : Code := { maxStack := 3, maxLocals := 2, code := prog_39_method_1_code, exceptionTable := #[], attributes := #[] }
def k7m0 : Method := { name := "<init>", desc := "(I)V", sig := { parameters := [.int], returnType := none }, accessFlags := 0, code := some k7c0 }
def k7c1 : Code := { maxStack := 4, maxLocals := 2, code := prog_39_method_2_code, exceptionTable := #[], attributes := #[] }
def k7m1 : Method := { name := "plant", desc := "()V", sig := { parameters := [], returnType := none }, accessFlags := 0, code := some k7c1 }
/-- com/example/gridfare/gridfare/engine/LoweringTree -/
def k7 : Class := { plain "com/example/gridfare/gridfare/engine/LoweringTree" (some 0) with
  accessFlags := 48
  interfaces := #[]
  cf := some (fileOf pool7 8 #[] #[{ accessFlags := 0, nameIndex := 5, descriptorIndex := 33, attributes := #[] }, { accessFlags := 0, nameIndex := 25, descriptorIndex := 6, attributes := #[] }] 48 2 #[] #[{ accessFlags := 26, nameIndex := 30, descriptorIndex := 12, attributes := #[] }, { accessFlags := 18, nameIndex := 11, descriptorIndex := 12, attributes := #[] }, { accessFlags := 18, nameIndex := 15, descriptorIndex := 16, attributes := #[] }, { accessFlags := 18, nameIndex := 19, descriptorIndex := 16, attributes := #[] }, { accessFlags := 18, nameIndex := 22, descriptorIndex := 16, attributes := #[] }])
  fields := #[{ name := "OUT", type := .int, accessFlags := 26, slot := 0, constantValue := 0 }, { name := "root", type := .int, accessFlags := 18, slot := 0, constantValue := 0 }, { name := "following", type := (.array .int), accessFlags := 18, slot := 1, constantValue := 0 }, { name := "preceding", type := (.array .int), accessFlags := 18, slot := 2, constantValue := 0 }, { name := "depth", type := (.array .int), accessFlags := 18, slot := 3, constantValue := 0 }]
  methods := #[k7m0, k7m1]
  instanceTypes := #[.int, (.array .int), (.array .int), (.array .int)]
  staticTypes := #[.int]
  resolved := Array.replicate 41 none
  statics := none }

def pool8 : Array CpInfo := pool [(1, u "java/lang/Cloneable"), (0, .class_ 1), (0, u "java/lang/Object"), (0, .class_ 3)] 3

/-- java/lang/Cloneable -/
def k8 : Class := { plain "java/lang/Cloneable" (some 0) with
  accessFlags := 1537
  interfaces := #[]
  cf := some (fileOf pool8 2 #[] #[] 1537 4 #[] #[])
  fields := #[]
  methods := #[]
  instanceTypes := #[]
  staticTypes := #[]
  resolved := Array.replicate 8 none
  statics := none }

def pool9 : Array CpInfo := pool [(1, u "java/io/Serializable"), (0, .class_ 1), (0, u "java/lang/Object"), (0, .class_ 3)] 3

/-- java/io/Serializable -/
def k9 : Class := { plain "java/io/Serializable" (some 0) with
  accessFlags := 1537
  interfaces := #[]
  cf := some (fileOf pool9 2 #[] #[] 1537 4 #[] #[])
  fields := #[]
  methods := #[]
  instanceTypes := #[]
  staticTypes := #[]
  resolved := Array.replicate 8 none
  statics := none }

/-- the primitive boolean -/
def k10 : Class := { plain "boolean" none with kind := .primitive 'Z', accessFlags := 0x411 }
/-- [Z -/
def k11 : Class := { plain "[Z" (some 0) with kind := .array 10 .boolean, interfaces := #[8, 9], accessFlags := 1041 }

/-- the primitive byte -/
def k12 : Class := { plain "byte" none with kind := .primitive 'B', accessFlags := 0x411 }
/-- [B -/
def k13 : Class := { plain "[B" (some 0) with kind := .array 12 .byte, interfaces := #[8, 9], accessFlags := 1041 }

/-- the primitive int -/
def k14 : Class := { plain "int" none with kind := .primitive 'I', accessFlags := 0x411 }
/-- [I -/
def k15 : Class := { plain "[I" (some 0) with kind := .array 14 .int, interfaces := #[8, 9], accessFlags := 1041 }

/-- the primitive long -/
def k16 : Class := { plain "long" none with kind := .primitive 'J', accessFlags := 0x411 }
/-- [J -/
def k17 : Class := { plain "[J" (some 0) with kind := .array 16 .long, interfaces := #[8, 9], accessFlags := 1041 }

def heap : Heap := #[]
def classes : Array Class := #[k0, k1, k2, k3, k4, k5, k6, k7, k8, k9, k10, k11, k12, k13, k14, k15, k16, k17]
def interned : List (Array UInt16 × Addr) := []
def slotsUsed : Nat := 0
def theMethod : MethodId := ⟨1, 1⟩
def args0 : Array Value := #[.int 5, .int 5, .int 5, .int 5, .long 5, .int 5]
def aboutOver (below : List Frame) : State where
  vm := { classes := classes, interned := interned.toArray }
  heap := heap
  slotsUsed := slotsUsed
  threads := #[{ frames := .invoking theMethod args0 :: below }]
def below0 : List Frame := [.native { method := ⟨0, 0⟩, args := #[] }]
def about1 : State := aboutOver below0
def p0 : Program := .bare "" "" ""
def e0 : Env := launch0.env 0 0 0
theorem w_frames : about1.frames = Frame.invoking theMethod args0 :: below0 := rfl
set_option maxRecDepth 65536 in
theorem w_args : argsFit about1.vm theMethod args0 = true := by decide +kernel
set_option maxRecDepth 65536 in
theorem w_heap : heapFits about1 = true := by decide +kernel
set_option maxRecDepth 65536 in
theorem w_runnable : about1.curStatus? = some .runnable := by decide +kernel
set_option maxRecDepth 65536 in
theorem w_alone : about1.alone = true := by decide +kernel
set_option maxRecDepth 65536 in
theorem w_named : about1.methodNamed? x = some theMethod := by decide +kernel
set_option maxRecDepth 65536 in
theorem w_hears : about1.hears theMethod below0 = true := by decide +kernel
set_option maxRecDepth 65536 in
theorem w_ripe : about1.ripe theMethod args0 below0 = true := by decide +kernel
theorem w_running : about1.status = .running := rfl
set_option maxRecDepth 65536 in
theorem w_room : about1.hasRoom e0.platform room_1 = true :=
  launch0.hasRoom_least _ room_1 (by decide +kernel) (by decide +kernel) (by decide +kernel) (by decide +kernel) (by decide +kernel) (by decide +kernel)
theorem allAtoms_all (ts : List Jvm.Cond) (a : Array Jvm.Value) (st : Jvm.State) : (allAtoms ts).before a st = ts.all (fun c => c.before a st) := by
  induction ts with
  | nil => rfl
  | cons c t ih =>
    show (Jvm.Cond.and c (allAtoms t)).before a st = _
    rw [Jvm.Cond.before_and, ih, List.all_cons]
def words1 : List Jvm.Cond := Jvm.Cond.code x code maxLocals ret :: tables_1
/-- a 'code' word, met by the world's own term for the bytes: nothing is compared byte by byte -/
theorem code_word {y : MethodName} {bytes : ByteArray} {mx : Nat} {rt : Option FieldType} {a : Array Value} {s : State} {m : MethodId} {meth : Method} {c : Code} (h1 : s.methodNamed? y = some m) (h2 : s.vm.method? m = some meth) (h3 : meth.code = some c) (h4 : c.code = bytes)
    (h5 : (c.maxLocals == mx && c.exceptionTable.isEmpty && decide (c.maxStack ≤ mostOperands) && decide (meth.sig.returnType = rt) && !meth.locks && decide (parseMethodDescriptor y.desc = some meth.sig)) = true) : (Jvm.Cond.code y bytes mx rt).before a s = true := by
  simp only [Bool.and_eq_true, beq_iff_eq, Bool.not_eq_true', decide_eq_true_eq] at h5
  obtain ⟨⟨⟨⟨⟨g1, g2⟩, g3⟩, g4⟩, g5⟩, g6⟩ := h5
  simp [Cond.before, Cond.holds, Cond.value, h1, h2, h3, h4, g1, g2, g3, g4, g5, g6]
def isCode : Jvm.Cond → Bool
  | .code _ _ _ _ => true
  | _ => false
theorem all_split {L : List Jvm.Cond} {P : Jvm.Cond → Bool} (h1 : L.all (fun c => isCode c || P c) = true) (h2 : ∀ c ∈ L.filter isCode, P c = true) : L.all P = true := by
  refine List.all_eq_true.mpr fun c hc => ?_
  have h := List.all_eq_true.mp h1 c hc
  rcases Bool.eq_false_or_eq_true (isCode c) with hi | hi
  · exact h2 c (List.mem_filter.mpr ⟨hc, hi⟩)
  · simpa [hi] using h
set_option maxRecDepth 65536 in
theorem w_c0 : (Jvm.Cond.code x code maxLocals ret).before args0 about1 = true := code_word (m := ⟨1, 1⟩) (meth := k1m1) (c := k1c1) (by decide +kernel) rfl rfl rfl (by decide +kernel)
set_option maxRecDepth 65536 in
theorem w_c1 : (Jvm.Cond.code ({ cls := "com/example/gridfare/gridfare/engine/ResidualNetworkFlowsPinLaw", name := "put", desc := "([I[I[IIIIIIII)V" } : Jvm.MethodName) method_4_code (10 : Nat) (Option.none : Option Jvm.ClassFile.FieldType)).before args0 about1 = true := code_word (m := ⟨1, 3⟩) (meth := k1m3) (c := k1c3) (by decide +kernel) rfl rfl rfl (by decide +kernel)
set_option maxRecDepth 65536 in
theorem w_c2 : (Jvm.Cond.code ({ cls := "com/example/gridfare/gridfare/engine/ResidualNetworkFlowsPinLaw", name := "node", desc := "(II)I" } : Jvm.MethodName) method_3_code (2 : Nat) (Option.some Jvm.ClassFile.FieldType.int)).before args0 about1 = true := code_word (m := ⟨1, 2⟩) (meth := k1m2) (c := k1c2) (by decide +kernel) rfl rfl rfl (by decide +kernel)
set_option maxRecDepth 65536 in
theorem w_c3 : (Jvm.Cond.code ({ cls := "com/example/gridfare/gridfare/engine/ResidualNetwork", name := "<init>", desc := "(II[I[I[I[J)V" } : Jvm.MethodName) prog_42_method_1_code (12 : Nat) (Option.none : Option Jvm.ClassFile.FieldType)).before args0 about1 = true := code_word (m := ⟨2, 0⟩) (meth := k2m0) (c := k2c0) (by decide +kernel) rfl rfl rfl (by decide +kernel)
set_option maxRecDepth 65536 in
theorem w_c4 : (Jvm.Cond.code ({ cls := "java/lang/Object", name := "<init>", desc := "()V" } : Jvm.MethodName) object_method_1_code (1 : Nat) (Option.none : Option Jvm.ClassFile.FieldType)).before args0 about1 = true := code_word (m := ⟨0, 0⟩) (meth := k0m0) (c := k0c0) (by decide +kernel) rfl rfl rfl (by decide +kernel)
set_option maxRecDepth 65536 in
theorem w_c5 : (Jvm.Cond.code ({ cls := "java/lang/Math", name := "multiplyExact", desc := "(II)I" } : Jvm.MethodName) jdk_29_method_28_code (4 : Nat) (Option.some Jvm.ClassFile.FieldType.int)).before args0 about1 = true := code_word (m := ⟨3, 1⟩) (meth := k3m1) (c := k3c1) (by decide +kernel) rfl rfl rfl (by decide +kernel)
set_option maxRecDepth 65536 in
theorem w_c6 : (Jvm.Cond.code ({ cls := "java/util/Arrays", name := "copyOf", desc := "([II)[I" } : Jvm.MethodName) jdk_65_method_123_code (3 : Nat) (Option.some (Jvm.ClassFile.FieldType.array Jvm.ClassFile.FieldType.int))).before args0 about1 = true := code_word (m := ⟨4, 2⟩) (meth := k4m2) (c := k4c2) (by decide +kernel) rfl rfl rfl (by decide +kernel)
set_option maxRecDepth 65536 in
theorem w_c7 : (Jvm.Cond.code ({ cls := "java/lang/Math", name := "min", desc := "(II)I" } : Jvm.MethodName) jdk_29_method_69_code (2 : Nat) (Option.some Jvm.ClassFile.FieldType.int)).before args0 about1 = true := code_word (m := ⟨3, 2⟩) (meth := k3m2) (c := k3c2) (by decide +kernel) rfl rfl rfl (by decide +kernel)
set_option maxRecDepth 65536 in
theorem w_c8 : (Jvm.Cond.code ({ cls := "com/example/gridfare/gridfare/engine/BucketQueue", name := "<init>", desc := "(II)V" } : Jvm.MethodName) prog_37_method_1_code (3 : Nat) (Option.none : Option Jvm.ClassFile.FieldType)).before args0 about1 = true := code_word (m := ⟨6, 0⟩) (meth := k6m0) (c := k6c0) (by decide +kernel) rfl rfl rfl (by decide +kernel)
set_option maxRecDepth 65536 in
theorem w_c9 : (Jvm.Cond.code ({ cls := "java/util/Arrays", name := "fill", desc := "([II)V" } : Jvm.MethodName) jdk_65_method_103_code (4 : Nat) (Option.none : Option Jvm.ClassFile.FieldType)).before args0 about1 = true := code_word (m := ⟨4, 1⟩) (meth := k4m1) (c := k4c1) (by decide +kernel) rfl rfl rfl (by decide +kernel)
set_option maxRecDepth 65536 in
theorem w_c10 : (Jvm.Cond.code ({ cls := "com/example/gridfare/gridfare/engine/LoweringTree", name := "<init>", desc := "(I)V" } : Jvm.MethodName) prog_39_method_1_code (2 : Nat) (Option.none : Option Jvm.ClassFile.FieldType)).before args0 about1 = true := code_word (m := ⟨7, 0⟩) (meth := k7m0) (c := k7c0) (by decide +kernel) rfl rfl rfl (by decide +kernel)
set_option maxRecDepth 65536 in
theorem w_c11 : (Jvm.Cond.code ({ cls := "com/example/gridfare/gridfare/engine/LoweringTree", name := "plant", desc := "()V" } : Jvm.MethodName) prog_39_method_2_code (2 : Nat) (Option.none : Option Jvm.ClassFile.FieldType)).before args0 about1 = true := code_word (m := ⟨7, 1⟩) (meth := k7m1) (c := k7c1) (by decide +kernel) rfl rfl rfl (by decide +kernel)
set_option maxRecDepth 65536 in
theorem w_c12 : (Jvm.Cond.code ({ cls := "com/example/gridfare/gridfare/engine/ResidualNetwork", name := "sendMaxFlow", desc := "(IIJ)J" } : Jvm.MethodName) prog_42_method_2_code (7 : Nat) (Option.some Jvm.ClassFile.FieldType.long)).before args0 about1 = true := code_word (m := ⟨2, 1⟩) (meth := k2m1) (c := k2c1) (by decide +kernel) rfl rfl rfl (by decide +kernel)
set_option maxRecDepth 65536 in
theorem w_c13 : (Jvm.Cond.code ({ cls := "com/example/gridfare/gridfare/engine/ResidualNetwork", name := "levelFrom", desc := "(II)Z" } : Jvm.MethodName) prog_42_method_6_code (8 : Nat) (Option.some Jvm.ClassFile.FieldType.boolean)).before args0 about1 = true := code_word (m := ⟨2, 3⟩) (meth := k2m3) (c := k2c3) (by decide +kernel) rfl rfl rfl (by decide +kernel)
set_option maxRecDepth 65536 in
theorem w_c14 : (Jvm.Cond.code ({ cls := "com/example/gridfare/gridfare/engine/ResidualNetwork", name := "sendBlockingFlow", desc := "(IIJ)J" } : Jvm.MethodName) prog_42_method_7_code (10 : Nat) (Option.some Jvm.ClassFile.FieldType.long)).before args0 about1 = true := code_word (m := ⟨2, 4⟩) (meth := k2m4) (c := k2c4) (by decide +kernel) rfl rfl rfl (by decide +kernel)
set_option maxRecDepth 65536 in
theorem w_c15 : (Jvm.Cond.code ({ cls := "com/example/gridfare/gridfare/engine/ResidualNetwork", name := "sendAlongPath", desc := "(IIJ)I" } : Jvm.MethodName) prog_42_method_8_code (9 : Nat) (Option.some Jvm.ClassFile.FieldType.int)).before args0 about1 = true := code_word (m := ⟨2, 5⟩) (meth := k2m5) (c := k2c5) (by decide +kernel) rfl rfl rfl (by decide +kernel)
set_option maxRecDepth 65536 in
theorem w_c16 : (Jvm.Cond.code ({ cls := "java/lang/Math", name := "min", desc := "(JJ)J" } : Jvm.MethodName) jdk_29_method_70_code (4 : Nat) (Option.some Jvm.ClassFile.FieldType.long)).before args0 about1 = true := code_word (m := ⟨3, 3⟩) (meth := k3m3) (c := k3c3) (by decide +kernel) rfl rfl rfl (by decide +kernel)
set_option maxRecDepth 65536 in
theorem w_c17 : (Jvm.Cond.code ({ cls := "com/example/gridfare/gridfare/engine/ResidualNetwork", name := "push", desc := "(II)V" } : Jvm.MethodName) prog_42_method_20_code (3 : Nat) (Option.none : Option Jvm.ClassFile.FieldType)).before args0 about1 = true := code_word (m := ⟨2, 6⟩) (meth := k2m6) (c := k2c6) (by decide +kernel) rfl rfl rfl (by decide +kernel)
set_option maxRecDepth 65536 in
theorem w_c18 : (Jvm.Cond.code ({ cls := "com/example/gridfare/gridfare/engine/ResidualNetwork", name := "flows", desc := "()[I" } : Jvm.MethodName) prog_42_method_5_code (3 : Nat) (Option.some (Jvm.ClassFile.FieldType.array Jvm.ClassFile.FieldType.int))).before args0 about1 = true := code_word (m := ⟨2, 2⟩) (meth := k2m2) (c := k2c2) (by decide +kernel) rfl rfl rfl (by decide +kernel)
def codes1 : List Jvm.Cond := [Jvm.Cond.code x code maxLocals ret, Jvm.Cond.code ({ cls := "com/example/gridfare/gridfare/engine/ResidualNetworkFlowsPinLaw", name := "put", desc := "([I[I[IIIIIIII)V" } : Jvm.MethodName) method_4_code (10 : Nat) (Option.none : Option Jvm.ClassFile.FieldType), Jvm.Cond.code ({ cls := "com/example/gridfare/gridfare/engine/ResidualNetworkFlowsPinLaw", name := "node", desc := "(II)I" } : Jvm.MethodName) method_3_code (2 : Nat) (Option.some Jvm.ClassFile.FieldType.int), Jvm.Cond.code ({ cls := "com/example/gridfare/gridfare/engine/ResidualNetwork", name := "<init>", desc := "(II[I[I[I[J)V" } : Jvm.MethodName) prog_42_method_1_code (12 : Nat) (Option.none : Option Jvm.ClassFile.FieldType), Jvm.Cond.code ({ cls := "java/lang/Object", name := "<init>", desc := "()V" } : Jvm.MethodName) object_method_1_code (1 : Nat) (Option.none : Option Jvm.ClassFile.FieldType), Jvm.Cond.code ({ cls := "java/lang/Math", name := "multiplyExact", desc := "(II)I" } : Jvm.MethodName) jdk_29_method_28_code (4 : Nat) (Option.some Jvm.ClassFile.FieldType.int), Jvm.Cond.code ({ cls := "java/util/Arrays", name := "copyOf", desc := "([II)[I" } : Jvm.MethodName) jdk_65_method_123_code (3 : Nat) (Option.some (Jvm.ClassFile.FieldType.array Jvm.ClassFile.FieldType.int)), Jvm.Cond.code ({ cls := "java/lang/Math", name := "min", desc := "(II)I" } : Jvm.MethodName) jdk_29_method_69_code (2 : Nat) (Option.some Jvm.ClassFile.FieldType.int), Jvm.Cond.code ({ cls := "com/example/gridfare/gridfare/engine/BucketQueue", name := "<init>", desc := "(II)V" } : Jvm.MethodName) prog_37_method_1_code (3 : Nat) (Option.none : Option Jvm.ClassFile.FieldType), Jvm.Cond.code ({ cls := "java/util/Arrays", name := "fill", desc := "([II)V" } : Jvm.MethodName) jdk_65_method_103_code (4 : Nat) (Option.none : Option Jvm.ClassFile.FieldType), Jvm.Cond.code ({ cls := "com/example/gridfare/gridfare/engine/LoweringTree", name := "<init>", desc := "(I)V" } : Jvm.MethodName) prog_39_method_1_code (2 : Nat) (Option.none : Option Jvm.ClassFile.FieldType), Jvm.Cond.code ({ cls := "com/example/gridfare/gridfare/engine/LoweringTree", name := "plant", desc := "()V" } : Jvm.MethodName) prog_39_method_2_code (2 : Nat) (Option.none : Option Jvm.ClassFile.FieldType), Jvm.Cond.code ({ cls := "com/example/gridfare/gridfare/engine/ResidualNetwork", name := "sendMaxFlow", desc := "(IIJ)J" } : Jvm.MethodName) prog_42_method_2_code (7 : Nat) (Option.some Jvm.ClassFile.FieldType.long), Jvm.Cond.code ({ cls := "com/example/gridfare/gridfare/engine/ResidualNetwork", name := "levelFrom", desc := "(II)Z" } : Jvm.MethodName) prog_42_method_6_code (8 : Nat) (Option.some Jvm.ClassFile.FieldType.boolean), Jvm.Cond.code ({ cls := "com/example/gridfare/gridfare/engine/ResidualNetwork", name := "sendBlockingFlow", desc := "(IIJ)J" } : Jvm.MethodName) prog_42_method_7_code (10 : Nat) (Option.some Jvm.ClassFile.FieldType.long), Jvm.Cond.code ({ cls := "com/example/gridfare/gridfare/engine/ResidualNetwork", name := "sendAlongPath", desc := "(IIJ)I" } : Jvm.MethodName) prog_42_method_8_code (9 : Nat) (Option.some Jvm.ClassFile.FieldType.int), Jvm.Cond.code ({ cls := "java/lang/Math", name := "min", desc := "(JJ)J" } : Jvm.MethodName) jdk_29_method_70_code (4 : Nat) (Option.some Jvm.ClassFile.FieldType.long), Jvm.Cond.code ({ cls := "com/example/gridfare/gridfare/engine/ResidualNetwork", name := "push", desc := "(II)V" } : Jvm.MethodName) prog_42_method_20_code (3 : Nat) (Option.none : Option Jvm.ClassFile.FieldType), Jvm.Cond.code ({ cls := "com/example/gridfare/gridfare/engine/ResidualNetwork", name := "flows", desc := "()[I" } : Jvm.MethodName) prog_42_method_5_code (3 : Nat) (Option.some (Jvm.ClassFile.FieldType.array Jvm.ClassFile.FieldType.int))]
set_option maxRecDepth 65536 in
theorem codes_eq : words1.filter isCode = codes1 := rfl
theorem w_codes : ∀ c ∈ words1.filter isCode, c.before args0 about1 = true := by
  rw [codes_eq]
  intro c hc
  simp only [codes1, List.mem_cons, List.not_mem_nil, or_false] at hc
  rcases hc with rfl | rfl | rfl | rfl | rfl | rfl | rfl | rfl | rfl | rfl | rfl | rfl | rfl | rfl | rfl | rfl | rfl | rfl | rfl
  · exact w_c0
  · exact w_c1
  · exact w_c2
  · exact w_c3
  · exact w_c4
  · exact w_c5
  · exact w_c6
  · exact w_c7
  · exact w_c8
  · exact w_c9
  · exact w_c10
  · exact w_c11
  · exact w_c12
  · exact w_c13
  · exact w_c14
  · exact w_c15
  · exact w_c16
  · exact w_c17
  · exact w_c18
set_option maxRecDepth 65536 in
theorem w_t1 : (words1.take 24).all (fun c => isCode c || c.before args0 about1) = true := by decide +kernel
set_option maxRecDepth 65536 in
theorem w_t2 : ((words1.drop 24).take 24).all (fun c => isCode c || c.before args0 about1) = true := by decide +kernel
set_option maxRecDepth 65536 in
theorem w_t3 : (((words1.drop 24).drop 24).take 24).all (fun c => isCode c || c.before args0 about1) = true := by decide +kernel
set_option maxRecDepth 65536 in
theorem w_t4 : ((((words1.drop 24).drop 24).drop 24).take 24).all (fun c => isCode c || c.before args0 about1) = true := by decide +kernel
set_option maxRecDepth 65536 in
theorem w_t5 : (((((words1.drop 24).drop 24).drop 24).drop 24).take 24).all (fun c => isCode c || c.before args0 about1) = true := by decide +kernel
set_option maxRecDepth 65536 in
theorem w_t6 : ((((((words1.drop 24).drop 24).drop 24).drop 24).drop 24).take 24).all (fun c => isCode c || c.before args0 about1) = true := by decide +kernel
set_option maxRecDepth 65536 in
theorem w_t7 : ((((((words1.drop 24).drop 24).drop 24).drop 24).drop 24).drop 24).all (fun c => isCode c || c.before args0 about1) = true := by decide +kernel
theorem w_tables : (allAtoms (Jvm.Cond.code x code maxLocals ret :: tables_1)).before args0 about1 = true := by
  rw [allAtoms_all]
  show words1.all (fun c => c.before args0 about1) = true
  refine all_split ?_ w_codes
  rw [← List.take_append_drop 24 words1, List.all_append, w_t1, ← List.take_append_drop 24 (words1.drop 24), List.all_append, w_t2, ← List.take_append_drop 24 ((words1.drop 24).drop 24), List.all_append, w_t3, ← List.take_append_drop 24 (((words1.drop 24).drop 24).drop 24), List.all_append, w_t4, ← List.take_append_drop 24 ((((words1.drop 24).drop 24).drop 24).drop 24), List.all_append, w_t5, ← List.take_append_drop 24 (((((words1.drop 24).drop 24).drop 24).drop 24).drop 24), List.all_append, w_t6, w_t7]
  rfl
set_option maxRecDepth 65536 in
theorem w_case : (Jvm.Cond.and given_1 narrow_1).before args0 about1 = true := by decide +kernel
theorem w_applies : (headSpec (Jvm.Cond.code x code maxLocals ret :: tables_1) room_1).applies x e0.platform about1 = true :=
  (Spec.applies_iff w_frames).mpr ⟨w_running, w_runnable, w_alone, w_named, w_hears, w_ripe, w_room, w_tables⟩
theorem atStart : AtStart classFile x code maxLocals ret World_1 tables_1 room_1 Calls_1 rest_1 Pre_1 launch0 p0 e0 about1 theMethod args0 below0 :=
  ⟨lists_1, trivial, launch0.admits_env _ _ _, launch0.least_env, fairChoices_fair.cas, fairChoices_fair.clock, w_frames, w_args, w_heap, w_applies, trivial, trivial, w_case⟩
end start1
theorem witness_1 : WitnessClaimed_1 := ⟨start1.p0, start1.e0, start1.about1, start1.theMethod, start1.args0, start1.below0, start1.atStart⟩
end Jvm.Pilot.@@N@@
