import JvmDerived
import JvmDerived.Pilot.@@N@@Statement
import JvmDerived.Pilot.@@N@@Code
set_option linter.unusedVariables false
set_option linter.unusedSimpArgs false
namespace Jvm.RoadKit
open Sem ClassFile Op Lib Jvm.Stand Jvm.Free Jvm.LawKit
section New
variable {p : Program} {l : Launch} {e : Env} {R : Room} {s : State} {m : MethodId} {args : Array Value} {below : List Frame} {meth : Method} {c : Code} {T : State} {locs : List Loc} {cells slots : Nat}
theorem retI (X : Stand p l e R s m args below meth c T locs cells slots) (hx : p.tables.exec = Jvm.exec) {pc : Nat} {Ls : Array Slot} {z : Int32} {rest : List Value} (hret : meth.sig.returnType = some .int) (hd : decode c.code pc = .ok (.ireturn, 1)) {fs : List Frame}
    (hl : ∀ (f : JFrame) (acts : List Action), f.method = m → f.locked = none → f.entered = [] → (doReturn e (T.setTop f) acts (some (.int z))).1 = T.setFrames fs) : Steps p.tables e below (T.setTop (mkF m pc Ls (.int z :: rest))) (T.setFrames fs) := by
  have hm' : T.vm.method? m = some meth := X.method'
  have hn : narrow .int (.int z) = .int z := rfl
  show Steps p.tables e below (T.setTop { method := m, pc := pc, locals := Ls, stack := _ :: rest, locked := none }) _
  jvm_step X.here [X.here.top, hx, hd, hm', hret, hn]
  first | (intro acts; rw [hl _ acts rfl rfl rfl]) | rw [hl _ _ rfl rfl rfl]
  exact Steps.refl _
end New
end Jvm.RoadKit
namespace Jvm.Pilot.@@N@@
open Jvm Jvm.ClassFile Sem Op Lib Jvm.Free Jvm.Stand Jvm.LawKit Jvm.RoadKit Bundle Jvm.Pilot.@@N@@.Jvm.D
/-- what is still to come: from the frame g at T the run comes to an end that Q takes -/
def own_WP (p : Program) (e : Env) (below : List Frame) (Q : Outcome → State → Prop) (T : State) (g : JFrame) : Prop :=
  ∃ s₂ o, Steps p.tables e below (T.setTop g) s₂ ∧ s₂.status = .running ∧ Ended s₂ below o ∧ Q o s₂
def own_Q (s : State) (P : Option Value → Heap → List Loc → Prop) (C S : Nat) (o : Outcome) (U : State) : Prop :=
  ∃ v L, o = .returned v ∧ P v U.heap L ∧ FrameEnd s o U L C S
def own_Ctx (p : Program) (s : State) (m : MethodId) (meth : Method) (c : Code) (Z : State) (y : MethodName) (bytes : ByteArray) (maxL : Nat) (rt : Option FieldType) : Prop :=
  p.tables.exec = Jvm.exec ∧ Z.Warmed39 s.vm ∧ c.code = bytes ∧ c.maxLocals = maxL ∧ s.vm.findClass y.cls = some m.cls ∧ meth.name = y.name ∧ meth.sig.returnType = rt ∧ meth.locks = false
def own_Met (l : Launch) (Z : State) (y : MethodName) (bytes : ByteArray) (maxL : Nat) (rt : Option FieldType) (ws : List Jvm.Cond) (rm : Room) (as' : Array Value) (h : Heap) (P : Option Value → Heap → List Loc → Prop) : Prop :=
  MetFree l y (head1 (Jvm.Cond.code y bytes maxL rt :: ws) rm) (fun a U => a = as' ∧ Z.Warmed39 U.vm ∧ U.heap = h) (fun _ _ _ _ _ => True) (fun _ U o U' => ∃ v L, o = .returned v ∧ P v U'.heap L ∧ FrameEnd U o U' L rm.cells rm.slots)
section Own
variable {p : Program} {l : Launch} {e : Env} {R : Room} {s : State} {m : MethodId} {args : Array Value} {below : List Frame} {meth : Method} {c : Code} {T T' : State} {locs : List Loc} {cells slots : Nat} {Z : State} {a0 : Array Value} {y : MethodName} {bytes : ByteArray} {maxL : Nat} {rt : Option FieldType} {P : Option Value → Heap → List Loc → Prop} {Q : Outcome → State → Prop}
theorem own_go {g g' : JFrame} (st : ∀ t, Steps p.tables e below (T'.setTop g') t → Steps p.tables e below (T.setTop g) t) (h : own_WP p e below Q T' g') : own_WP p e below Q T g := by
  obtain ⟨s₂, o, h1, h2⟩ := h
  exact ⟨s₂, o, st _ h1, h2⟩
theorem own_body {ws : List Jvm.Cond} {rm : Room} {as' : Array Value} {h : Heap} (hp : plainFor y = true)
    (body : ∀ p e s m below meth c s₁, own_Ctx p s m meth c Z y bytes maxL rt → Stand p l e rm s m as' below meth c s₁ [] 0 0 → s₁.heap = h → own_WP p e below (own_Q s P rm.cells rm.slots) s₁ (entryFrame m as' maxL)) :
    own_Met l Z y bytes maxL rt ws rm as' h P := by
  refine MetFree.of_bodySF hp hisR ?_
  intro p e s m args below meth c s₁ Bd hml0 hP hK
  obtain ⟨rfl, hZ, hh⟩ := hP
  exact body p e s m below meth c s₁ ⟨Bd.exec, hZ, Bd.bytes, hml0, findClass_of_methodNamed Bd.named, (name_of_methodNamed Bd.named Bd.method).1, Bd.returns, Bd.notSynchronized⟩ (Stand.of_body Bd) (by rw [← hh, Bd.state]; rfl)
theorem own_cast {g g' : JFrame} (q : g = g') (k : own_WP p e below Q T g') : own_WP p e below Q T g := q ▸ k
theorem own_retI (X : Stand p l e R s m args below meth c T locs cells slots) (C : own_Ctx p s m meth c Z y bytes maxL (some .int)) {pc : Nat} {Ls : Array Slot} {z : Int32} {rest : List Value} {CC SS : Nat}
    (hd : decode c.code pc = .ok (.ireturn, 1)) (hP : P (some (.int z)) T.heap locs) (hc : cells ≤ CC) (hs : slots ≤ SS) : own_WP p e below (own_Q s P CC SS) T (mkF m pc Ls (.int z :: rest)) := by
  obtain ⟨hx, -, -, -, -, -, hr, hlk⟩ := C
  obtain ⟨fs, hrr, hrun, hended, hW, hsame⟩ := X.leave (v := some (.int z)) (fun h => by rw [hr] at h; cases h) hlk
  exact ⟨_, _, retI X hx hr hd hrr, hrun, hended, _, _, rfl, hP, ⟨_, rfl⟩, hW, hsame.mono hc hs⟩
theorem own_retN {t : FieldType} (X : Stand p l e R s m args below meth c T locs cells slots) (C : own_Ctx p s m meth c Z y bytes maxL (some t)) (ht : t = .boolean ∨ t = .byte ∨ t = .char ∨ t = .short) {pc : Nat} {Ls : Array Slot} {z : Int32} {rest : List Value} {CC SS : Nat}
    (hd : decode c.code pc = .ok (.ireturn, 1)) (hP : P (some (.int (nar t z))) T.heap locs) (hc : cells ≤ CC) (hs : slots ≤ SS) : own_WP p e below (own_Q s P CC SS) T (mkF m pc Ls (.int z :: rest)) := by
  obtain ⟨hx, -, -, -, -, -, hr, hlk⟩ := C
  obtain ⟨fs, hrr, hrun, hended, hW, hsame⟩ := X.leave (v := some (.int (nar t z))) (fun h => by rw [hr] at h; cases h) hlk
  exact ⟨_, _, retN X hx hr ht hd hrr, hrun, hended, _, _, rfl, hP, ⟨_, rfl⟩, hW, hsame.mono hc hs⟩
theorem own_retL (X : Stand p l e R s m args below meth c T locs cells slots) (C : own_Ctx p s m meth c Z y bytes maxL (some .long)) {pc : Nat} {Ls : Array Slot} {z : Int64} {CC SS : Nat}
    (hd : decode c.code pc = .ok (.lreturn, 1)) (hP : P (some (.long z)) T.heap locs) (hc : cells ≤ CC) (hs : slots ≤ SS) : own_WP p e below (own_Q s P CC SS) T (mkF m pc Ls [.long z]) := by
  obtain ⟨hx, -, -, -, -, -, hr, hlk⟩ := C
  obtain ⟨fs, hrr, hrun, hended, hW, hsame⟩ := X.leave (v := some (.long z)) (fun h => by rw [hr] at h; cases h) hlk
  exact ⟨_, _, X.lreturnOut hx hr hd hrr, hrun, hended, _, _, rfl, hP, ⟨_, rfl⟩, hW, hsame.mono hc hs⟩
theorem own_retV (X : Stand p l e R s m args below meth c T locs cells slots) (C : own_Ctx p s m meth c Z y bytes maxL none) {pc : Nat} {Ls : Array Slot} {CC SS : Nat}
    (hd : decode c.code pc = .ok (.return_, 1)) (hP : P none T.heap locs) (hc : cells ≤ CC) (hs : slots ≤ SS) : own_WP p e below (own_Q s P CC SS) T (mkF m pc Ls []) := by
  obtain ⟨hx, -, -, -, -, -, hr, hlk⟩ := C
  obtain ⟨fs, hrr, hrun, hended, hW, hsame⟩ := X.leave (v := none) (fun _ => rfl) hlk
  exact ⟨_, _, X.returnOut hx hr hd hrr, hrun, hended, _, _, rfl, hP, ⟨_, rfl⟩, hW, hsame.mono hc hs⟩
theorem own_retA {t : FieldType} (X : Stand p l e R s m args below meth c T locs cells slots) (C : own_Ctx p s m meth c Z y bytes maxL (some t)) (ht : t.isReference = true) {pc : Nat} {Ls : Array Slot} {a : Addr} {CC SS : Nat}
    (hd : decode c.code pc = .ok (.areturn, 1)) (hP : P (some (.ref a)) T.heap locs) (hc : cells ≤ CC) (hs : slots ≤ SS) : own_WP p e below (own_Q s P CC SS) T (mkF m pc Ls [.ref a]) := by
  obtain ⟨hx, -, -, -, -, -, hr, hlk⟩ := C
  obtain ⟨fs, hrr, hrun, hended, hW, hsame⟩ := X.leave (v := some (.ref a)) (fun h => by rw [hr] at h; cases h) hlk
  exact ⟨_, _, X.areturnOut hx rfl hr ht hd hrr, hrun, hended, _, _, rfl, hP, ⟨_, rfl⟩, hW, hsame.mono hc hs⟩
/-- a static call by the callee's contract -/
theorem own_callS (X : Stand p l e R s m args below meth c T locs cells slots) (C : own_Ctx p s m meth c Z y bytes maxL rt) {idx : Nat} {y' : MethodName} {bytes' : ByteArray} {maxL' : Nat} {rt' : Option FieldType} {rm' : Room} {argsL rest : List Value} {h : Heap} {P' : Option Value → Heap → List Loc → Prop}
    (hM : own_Met l Z y' bytes' maxL' rt' [] rm' argsL.toArray h P') (w1 : (Cond.methodLink y.cls idx y').before a0 Z = true) (w2 : (Cond.static y').before a0 Z = true) (w3 : (Cond.initialized y'.cls).before a0 Z = true) (w4 : (Cond.code y' bytes' maxL' rt').before a0 Z = true)
    (hy : y'.cls ≠ "java/lang/invoke/MethodHandle" ∧ y'.cls ≠ "java/lang/invoke/VarHandle") (eT : T.heap = h) {W : Nat} {pc : Nat} {Ls : Array Slot} (hsz : Ls.size = maxL) (hlen : ∀ sig, parseMethodDescriptor y'.desc = some sig → argsL.length = sig.parameters.length)
    {stk : List Value} (hst : stk = argsL.reverse ++ rest) (hW : (rest.map fun v => v.category).sum ≤ W) (hd : decode c.code pc = .ok (.invokestatic idx, 3))
    (hf : rm'.frames + 1 ≤ R.frames) (hl : W + (maxL' + 11) + rm'.locals ≤ R.locals) (hc : cells + rm'.cells ≤ R.cells) (hs : slots + rm'.slots ≤ R.slots) :
    ∃ T' v L, Stand p l e R s m args below meth c T' (locs ++ L) (cells + rm'.cells) (slots + rm'.slots) ∧ P' v T'.heap L ∧ ∀ t, Steps p.tables e below (T'.setTop (mkF m (pc + 3) Ls (v.toList ++ rest))) t → Steps p.tables e below (T.setTop (mkF m pc Ls stk)) t := by
  obtain ⟨hx, hZ, hby, hml, hown, hnm, hr, hlk⟩ := C
  obtain ⟨v, _, ⟨T', L', k', n'⟩, -, X', ⟨L, hQ, hl', hk', hn'⟩, st⟩ := Jvm.LawKit.callS X hx (y := y') hown (mvT hZ w1) (mvT hZ w2) (mvT hZ w3) (mvT hZ w4) hy (backOf (W := W) hM hZ w4 w3 hf hl) (g := mkF m pc Ls stk) rfl (by rw [hml]; exact hsz) (argsL := argsL) (rest := rest) hlen hst (by show 2 * 0 + _ ≤ _; omega) hd (fun _ _ => ⟨rfl, eT, hc, hs⟩)
  dsimp only [Pt.U, Pt.locs, Pt.cells, Pt.slots] at X' hl' hk' hn' st hQ
  subst hl' hk' hn'
  exact ⟨T', v, L, X', hQ, st⟩
/-- a constructor by its contract -/
theorem own_callN (X : Stand p l e R s m args below meth c T locs cells slots) (C : own_Ctx p s m meth c Z y bytes maxL rt) {idx : Nat} {y' : MethodName} {bytes' : ByteArray} {maxL' : Nat} {rm' : Room} {a : Addr} {argsL rest : List Value} {h : Heap} {P' : Option Value → Heap → List Loc → Prop}
    (hM : own_Met l Z y' bytes' maxL' none [] rm' (.ref a :: argsL).toArray h P') (hyn : y'.name = "<init>") (w1 : (Cond.methodLink y.cls idx y').before a0 Z = true) (w2 : (Cond.instanceMethod y').before a0 Z = true) (w3 : (Cond.initialized y'.cls).before a0 Z = true) (w4 : (Cond.code y' bytes' maxL' none).before a0 Z = true)
    (hy : y'.cls ≠ "java/lang/invoke/MethodHandle" ∧ y'.cls ≠ "java/lang/invoke/VarHandle") (eT : T.heap = h) {W : Nat} {pc : Nat} {Ls : Array Slot} (hsz : Ls.size = maxL) (hlen : ∀ sig, parseMethodDescriptor y'.desc = some sig → argsL.length = sig.parameters.length)
    {stk : List Value} (hst : stk = argsL.reverse ++ .ref a :: rest) (hW : (rest.map fun v => v.category).sum ≤ W) (hd : decode c.code pc = .ok (.invokespecial idx, 3))
    (hf : rm'.frames + 1 ≤ R.frames) (hl : W + (maxL' + 11) + rm'.locals ≤ R.locals) (hc : cells + rm'.cells ≤ R.cells) (hs : slots + rm'.slots ≤ R.slots) :
    ∃ T' v L, Stand p l e R s m args below meth c T' (locs ++ L) (cells + rm'.cells) (slots + rm'.slots) ∧ P' v T'.heap L ∧ ∀ t, Steps p.tables e below (T'.setTop (mkF m (pc + 3) Ls (v.toList ++ rest))) t → Steps p.tables e below (T.setTop (mkF m pc Ls stk)) t := by
  obtain ⟨hx, hZ, hby, hml, hown, hnm, hr, hlk⟩ := C
  obtain ⟨v, _, ⟨T', L', k', n'⟩, -, X', ⟨L, hQ, hl', hk', hn'⟩, st⟩ := X.specialBack hx (y := y') hyn hown (mvT hZ w1) (mvT hZ w2) (mvT hZ w4) hy (backOf (W := W) hM hZ w4 w3 hf hl) (g := mkF m pc Ls stk) rfl (by rw [hml]; exact hsz) (Steps.refl _) (a := a) (argsL := argsL) (rest := rest) hlen hst (by show 2 * 0 + _ ≤ _; omega) hd (fun _ _ => ⟨rfl, eT, hc, hs⟩)
  dsimp only [Pt.U, Pt.locs, Pt.cells, Pt.slots] at X' hl' hk' hn' st hQ
  subst hl' hk' hn'
  exact ⟨T', v, L, X', hQ, fun t k => st.trans k⟩
/-- an instance method by the contract of the body that is selected (the class that declares it is the receiver's own) -/
theorem own_callV (X : Stand p l e R s m args below meth c T locs cells slots) (C : own_Ctx p s m meth c Z y bytes maxL rt) {idx : Nat} {y' : MethodName} {bytes' : ByteArray} {maxL' : Nat} {rt' : Option FieldType} {rm' : Room} {a : Addr} {argsL rest : List Value} {h : Heap} {P' : Option Value → Heap → List Loc → Prop}
    (hM : own_Met l Z y' bytes' maxL' rt' [] rm' (.ref a :: argsL).toArray h P') (w1 : (Cond.methodLink y.cls idx y').before a0 Z = true) (wd : (Cond.declares y').before a0 Z = true) (wsel : (Cond.selects y'.cls y' y').before a0 Z = true) (w2 : (Cond.instanceMethod y').before a0 Z = true) (w3 : (Cond.initialized y'.cls).before a0 Z = true) (w4 : (Cond.code y' bytes' maxL' rt').before a0 Z = true)
    (hy : y'.cls ≠ "java/lang/invoke/MethodHandle" ∧ y'.cls ≠ "java/lang/invoke/VarHandle") (eT : T.heap = h) (E : Exa Z h a y'.cls) {W : Nat} {pc : Nat} {Ls : Array Slot} (hsz : Ls.size = maxL) (hlen : ∀ sig, parseMethodDescriptor y'.desc = some sig → argsL.length = sig.parameters.length)
    {stk : List Value} (hst : stk = argsL.reverse ++ .ref a :: rest) (hW : (rest.map fun v => v.category).sum ≤ W) (hd : decode c.code pc = .ok (.invokevirtual idx, 3))
    (hf : rm'.frames + 1 ≤ R.frames) (hl : W + (maxL' + 11) + rm'.locals ≤ R.locals) (hc : cells + rm'.cells ≤ R.cells) (hs : slots + rm'.slots ≤ R.slots) :
    ∃ T' v L, Stand p l e R s m args below meth c T' (locs ++ L) (cells + rm'.cells) (slots + rm'.slots) ∧ P' v T'.heap L ∧ ∀ t, Steps p.tables e below (T'.setTop (mkF m (pc + 3) Ls (v.toList ++ rest))) t → Steps p.tables e below (T.setTop (mkF m pc Ls stk)) t := by
  obtain ⟨hx, hZ, hby, hml, hown, hnm, hr, hlk⟩ := C
  obtain ⟨cq, kq, qa, qb, qc⟩ := isOf hZ eT E
  obtain ⟨v, _, ⟨T', L', k', n'⟩, -, X', ⟨L, hQ, hl', hk', hn'⟩, st⟩ := X.virtualBack hx (y := y') (z := y') hown (mvT hZ w1) (mvT hZ wd) (notFace_of_selects (args := #[]) (mvT hZ wsel)) (mvT hZ wsel) (mvT hZ w2) hy (backOf (W := W) hM hZ w4 w3 hf hl) qa qc (g := mkF m pc Ls stk) rfl (by rw [hml]; exact hsz) (Steps.refl _) (argsL := argsL) (rest := rest) hlen hst (by show 2 * 0 + _ ≤ _; omega) hd (fun _ _ => ⟨rfl, eT, hc, hs⟩)
  dsimp only [Pt.U, Pt.locs, Pt.cells, Pt.slots] at X' hl' hk' hn' st hQ
  subst hl' hk' hn'
  exact ⟨T', v, L, X', hQ, fun t k => st.trans k⟩
end Own
end Jvm.Pilot.@@N@@
namespace Jvm.Pilot.@@N@@
open Jvm Jvm.ClassFile Sem Op Lib Jvm.Free Jvm.Stand Jvm.LawKit Jvm.RoadKit Bundle Jvm.Pilot.@@N@@.Jvm.D
theorem d1_0 : decode prog_188_method_8_code 0 = .ok (.iload_n 0, 1) := by decide +kernel
theorem d1_1 : decode prog_188_method_8_code 1 = .ok (.bipush 32, 2) := by decide +kernel
theorem d1_3 : decode prog_188_method_8_code 3 = .ok (.if_icmp .ge 15, 3) := by decide +kernel
theorem d1_6 : decode prog_188_method_8_code 6 = .ok (.iload_n 0, 1) := by decide +kernel
theorem d1_7 : decode prog_188_method_8_code 7 = .ok (.bipush 9, 2) := by decide +kernel
theorem d1_9 : decode prog_188_method_8_code 9 = .ok (.if_icmp .eq 9, 3) := by decide +kernel
theorem d1_12 : decode prog_188_method_8_code 12 = .ok (.iload_n 0, 1) := by decide +kernel
theorem d1_13 : decode prog_188_method_8_code 13 = .ok (.bipush 10, 2) := by decide +kernel
theorem d1_15 : decode prog_188_method_8_code 15 = .ok (.if_icmp .ne 27, 3) := by decide +kernel
theorem d1_18 : decode prog_188_method_8_code 18 = .ok (.iload_n 1, 1) := by decide +kernel
theorem d1_19 : decode prog_188_method_8_code 19 = .ok (.ifCond .eq 27, 3) := by decide +kernel
theorem d1_22 : decode prog_188_method_8_code 22 = .ok (.iload_n 0, 1) := by decide +kernel
theorem d1_23 : decode prog_188_method_8_code 23 = .ok (.bipush 127, 2) := by decide +kernel
theorem d1_25 : decode prog_188_method_8_code 25 = .ok (.if_icmp .lt 10, 3) := by decide +kernel
theorem d1_28 : decode prog_188_method_8_code 28 = .ok (.iload_n 0, 1) := by decide +kernel
theorem d1_29 : decode prog_188_method_8_code 29 = .ok (.sipush 159, 3) := by decide +kernel
theorem d1_32 : decode prog_188_method_8_code 32 = .ok (.if_icmp .le 10, 3) := by decide +kernel
theorem d1_35 : decode prog_188_method_8_code 35 = .ok (.iload_n 0, 1) := by decide +kernel
theorem d1_36 : decode prog_188_method_8_code 36 = .ok (.sipush 8232, 3) := by decide +kernel
theorem d1_39 : decode prog_188_method_8_code 39 = .ok (.if_icmp .ne 7, 3) := by decide +kernel
theorem d1_42 : decode prog_188_method_8_code 42 = .ok (.iconst 1, 1) := by decide +kernel
theorem d1_43 : decode prog_188_method_8_code 43 = .ok (.goto 4, 3) := by decide +kernel
theorem d1_46 : decode prog_188_method_8_code 46 = .ok (.iconst 0, 1) := by decide +kernel
theorem d1_47 : decode prog_188_method_8_code 47 = .ok (.ireturn, 1) := by decide +kernel
def rmR1 : Room := { frames := 0, cells := 0, slots := 0, locals := 0 }
def f1_35 (x0 : Int32) : Int32 := (if x0 = (8232 : Int32) then (1 : Int32) else (0 : Int32))
set_option maxRecDepth 65536 in
set_option maxHeartbeats 40000000 in
theorem b1_35 {p : Program} {l : Launch} {e : Env} {s : State} {m : MethodId} {args : Array Value} {below : List Frame} {meth : Method} {c : Code} {T : State} {locs : List Loc} {Z : State} {a0 : Array Value} {h0 : Heap} {P : Option Value → Heap → List Loc → Prop} (hw : ∀ d ∈ tables_1, d.before a0 Z = true) (C : own_Ctx p s m meth c Z (⟨"com/example/kvasir/kvasir/XmlVersion", "isReadOtherwise", "(IZ)Z"⟩ : MethodName) prog_188_method_8_code 2 (some .boolean))
    (X : Stand p l e rmR1 s m args below meth c T locs 0 0) (e0 : T.heap = h0) (x0 : Int32) (x1 : Int32) (r : Int32) (hv : f1_35 x0 = r) (hP : P (some (.int r)) h0 locs) :
    own_WP p e below (own_Q s P rmR1.cells rmR1.slots) T (mkF m 35 #[.val (.int x0), .val (.int x1)] []) := by
  obtain ⟨hx, hZ, hby, hml, hown, hnm, hret, hlk⟩ := id C
  unfold f1_35 at hv
  show own_WP p e below _ T (mkF m 35 #[.val (.int x0), .val (.int x1)] [])
  refine own_go (fun _ => XS.iloadN X.here hx rfl (hb hby d1_35) rfl) ?_
  show own_WP p e below _ T (mkF m 36 #[.val (.int x0), .val (.int x1)] [(.int x0)])
  refine own_go (fun _ => XS.sipush X.here hx rfl (hb hby d1_36)) ?_
  show own_WP p e below _ T (mkF m 39 #[.val (.int x0), .val (.int x1)] [(.int (8232 : Int32)), (.int x0)])
  by_cases h39 : x0 = (8232 : Int32)
  · replace hv := (if_pos h39).symm.trans hv
    refine own_go (fun _ => XS.icmpNo X.here hx rfl (hb hby d1_39) rfl (XT.ii_ne_f h39)) ?_
    show own_WP p e below _ T (mkF m 42 #[.val (.int x0), .val (.int x1)] [])
    refine own_go (fun _ => XS.iconst X.here hx rfl (hb hby d1_42)) ?_
    show own_WP p e below _ T (mkF m 43 #[.val (.int x0), .val (.int x1)] [(.int (1 : Int32))])
    refine own_go (fun _ => XS.goto X.here hx rfl (pc0 := 43) (pc' := 47) rfl (hb hby d1_43) (by decide) (by decide)) ?_
    show own_WP p e below _ T (mkF m 47 #[.val (.int x0), .val (.int x1)] [(.int (1 : Int32))])
    subst hv e0; exact own_retN X C (by simp) (hb hby d1_47) hP (by decide) (by decide)
  · replace hv := (if_neg h39).symm.trans hv
    refine own_go (fun _ => XS.icmpYes X.here hx rfl (pc0 := 39) (pc' := 46) rfl (hb hby d1_39) rfl (XT.ii_ne_t h39) (by decide) (by decide)) ?_
    show own_WP p e below _ T (mkF m 46 #[.val (.int x0), .val (.int x1)] [])
    refine own_go (fun _ => XS.iconst X.here hx rfl (hb hby d1_46)) ?_
    show own_WP p e below _ T (mkF m 47 #[.val (.int x0), .val (.int x1)] [(.int (0 : Int32))])
    subst hv e0; exact own_retN X C (by simp) (hb hby d1_47) hP (by decide) (by decide)
def f1_18 (x0 : Int32) (x1 : Int32) : Int32 := (if x1 = (0 : Int32) then (0 : Int32) else (if x0 < (127 : Int32) then (f1_35 x0) else (if (159 : Int32) < x0 then (f1_35 x0) else (1 : Int32))))
set_option maxRecDepth 65536 in
set_option maxHeartbeats 40000000 in
theorem b1_18 {p : Program} {l : Launch} {e : Env} {s : State} {m : MethodId} {args : Array Value} {below : List Frame} {meth : Method} {c : Code} {T : State} {locs : List Loc} {Z : State} {a0 : Array Value} {h0 : Heap} {P : Option Value → Heap → List Loc → Prop} (hw : ∀ d ∈ tables_1, d.before a0 Z = true) (C : own_Ctx p s m meth c Z (⟨"com/example/kvasir/kvasir/XmlVersion", "isReadOtherwise", "(IZ)Z"⟩ : MethodName) prog_188_method_8_code 2 (some .boolean))
    (X : Stand p l e rmR1 s m args below meth c T locs 0 0) (e0 : T.heap = h0) (x0 : Int32) (x1 : Int32) (r : Int32) (hv : f1_18 x0 x1 = r) (hP : P (some (.int r)) h0 locs) :
    own_WP p e below (own_Q s P rmR1.cells rmR1.slots) T (mkF m 18 #[.val (.int x0), .val (.int x1)] []) := by
  obtain ⟨hx, hZ, hby, hml, hown, hnm, hret, hlk⟩ := id C
  unfold f1_18 at hv
  show own_WP p e below _ T (mkF m 18 #[.val (.int x0), .val (.int x1)] [])
  refine own_go (fun _ => XS.iloadN X.here hx rfl (hb hby d1_18) rfl) ?_
  show own_WP p e below _ T (mkF m 19 #[.val (.int x0), .val (.int x1)] [(.int x1)])
  by_cases h19 : x1 = (0 : Int32)
  · replace hv := (if_pos h19).symm.trans hv
    refine own_go (fun _ => XS.ifYes X.here hx rfl (pc0 := 19) (pc' := 46) rfl (hb hby d1_19) rfl (XT.i0_eq_t h19) (by decide) (by decide)) ?_
    show own_WP p e below _ T (mkF m 46 #[.val (.int x0), .val (.int x1)] [])
    refine own_go (fun _ => XS.iconst X.here hx rfl (hb hby d1_46)) ?_
    show own_WP p e below _ T (mkF m 47 #[.val (.int x0), .val (.int x1)] [(.int (0 : Int32))])
    subst hv e0; exact own_retN X C (by simp) (hb hby d1_47) hP (by decide) (by decide)
  · replace hv := (if_neg h19).symm.trans hv
    refine own_go (fun _ => XS.ifNo X.here hx rfl (hb hby d1_19) rfl (XT.i0_eq_f h19)) ?_
    show own_WP p e below _ T (mkF m 22 #[.val (.int x0), .val (.int x1)] [])
    refine own_go (fun _ => XS.iloadN X.here hx rfl (hb hby d1_22) rfl) ?_
    show own_WP p e below _ T (mkF m 23 #[.val (.int x0), .val (.int x1)] [(.int x0)])
    refine own_go (fun _ => XS.bipush X.here hx rfl (hb hby d1_23)) ?_
    show own_WP p e below _ T (mkF m 25 #[.val (.int x0), .val (.int x1)] [(.int (127 : Int32)), (.int x0)])
    by_cases h25 : x0 < (127 : Int32)
    · replace hv := (if_pos h25).symm.trans hv
      refine own_go (fun _ => XS.icmpYes X.here hx rfl (pc0 := 25) (pc' := 35) rfl (hb hby d1_25) rfl (XT.ii_lt_t h25) (by decide) (by decide)) ?_
      exact b1_35 hw C X e0 x0 x1 r hv hP
    · replace hv := (if_neg h25).symm.trans hv
      refine own_go (fun _ => XS.icmpNo X.here hx rfl (hb hby d1_25) rfl (XT.ii_lt_f h25)) ?_
      show own_WP p e below _ T (mkF m 28 #[.val (.int x0), .val (.int x1)] [])
      refine own_go (fun _ => XS.iloadN X.here hx rfl (hb hby d1_28) rfl) ?_
      show own_WP p e below _ T (mkF m 29 #[.val (.int x0), .val (.int x1)] [(.int x0)])
      refine own_go (fun _ => XS.sipush X.here hx rfl (hb hby d1_29)) ?_
      show own_WP p e below _ T (mkF m 32 #[.val (.int x0), .val (.int x1)] [(.int (159 : Int32)), (.int x0)])
      by_cases h32 : (159 : Int32) < x0
      · replace hv := (if_pos h32).symm.trans hv
        refine own_go (fun _ => XS.icmpNo X.here hx rfl (hb hby d1_32) rfl (XT.ii_le_f h32)) ?_
        exact b1_35 hw C X e0 x0 x1 r hv hP
      · replace hv := (if_neg h32).symm.trans hv
        refine own_go (fun _ => XS.icmpYes X.here hx rfl (pc0 := 32) (pc' := 42) rfl (hb hby d1_32) rfl (XT.ii_le_t h32) (by decide) (by decide)) ?_
        show own_WP p e below _ T (mkF m 42 #[.val (.int x0), .val (.int x1)] [])
        refine own_go (fun _ => XS.iconst X.here hx rfl (hb hby d1_42)) ?_
        show own_WP p e below _ T (mkF m 43 #[.val (.int x0), .val (.int x1)] [(.int (1 : Int32))])
        refine own_go (fun _ => XS.goto X.here hx rfl (pc0 := 43) (pc' := 47) rfl (hb hby d1_43) (by decide) (by decide)) ?_
        show own_WP p e below _ T (mkF m 47 #[.val (.int x0), .val (.int x1)] [(.int (1 : Int32))])
        subst hv e0; exact own_retN X C (by simp) (hb hby d1_47) hP (by decide) (by decide)
def f1_0 (x0 : Int32) (x1 : Int32) : Int32 := (if x0 < (32 : Int32) then (if x0 = (9 : Int32) then (f1_18 x0 x1) else (if x0 = (10 : Int32) then (f1_18 x0 x1) else (1 : Int32))) else (f1_18 x0 x1))
set_option maxRecDepth 65536 in
set_option maxHeartbeats 40000000 in
theorem b1_0 {p : Program} {l : Launch} {e : Env} {s : State} {m : MethodId} {args : Array Value} {below : List Frame} {meth : Method} {c : Code} {T : State} {locs : List Loc} {Z : State} {a0 : Array Value} {h0 : Heap} {P : Option Value → Heap → List Loc → Prop} (hw : ∀ d ∈ tables_1, d.before a0 Z = true) (C : own_Ctx p s m meth c Z (⟨"com/example/kvasir/kvasir/XmlVersion", "isReadOtherwise", "(IZ)Z"⟩ : MethodName) prog_188_method_8_code 2 (some .boolean))
    (X : Stand p l e rmR1 s m args below meth c T locs 0 0) (e0 : T.heap = h0) (x0 : Int32) (x1 : Int32) (r : Int32) (hv : f1_0 x0 x1 = r) (hP : P (some (.int r)) h0 locs) :
    own_WP p e below (own_Q s P rmR1.cells rmR1.slots) T (mkF m 0 #[.val (.int x0), .val (.int x1)] []) := by
  obtain ⟨hx, hZ, hby, hml, hown, hnm, hret, hlk⟩ := id C
  unfold f1_0 at hv
  show own_WP p e below _ T (mkF m 0 #[.val (.int x0), .val (.int x1)] [])
  refine own_go (fun _ => XS.iloadN X.here hx rfl (hb hby d1_0) rfl) ?_
  show own_WP p e below _ T (mkF m 1 #[.val (.int x0), .val (.int x1)] [(.int x0)])
  refine own_go (fun _ => XS.bipush X.here hx rfl (hb hby d1_1)) ?_
  show own_WP p e below _ T (mkF m 3 #[.val (.int x0), .val (.int x1)] [(.int (32 : Int32)), (.int x0)])
  by_cases h3 : x0 < (32 : Int32)
  · replace hv := (if_pos h3).symm.trans hv
    refine own_go (fun _ => XS.icmpNo X.here hx rfl (hb hby d1_3) rfl (XT.ii_ge_f h3)) ?_
    show own_WP p e below _ T (mkF m 6 #[.val (.int x0), .val (.int x1)] [])
    refine own_go (fun _ => XS.iloadN X.here hx rfl (hb hby d1_6) rfl) ?_
    show own_WP p e below _ T (mkF m 7 #[.val (.int x0), .val (.int x1)] [(.int x0)])
    refine own_go (fun _ => XS.bipush X.here hx rfl (hb hby d1_7)) ?_
    show own_WP p e below _ T (mkF m 9 #[.val (.int x0), .val (.int x1)] [(.int (9 : Int32)), (.int x0)])
    by_cases h9 : x0 = (9 : Int32)
    · replace hv := (if_pos h9).symm.trans hv
      refine own_go (fun _ => XS.icmpYes X.here hx rfl (pc0 := 9) (pc' := 18) rfl (hb hby d1_9) rfl (XT.ii_eq_t h9) (by decide) (by decide)) ?_
      exact b1_18 hw C X e0 x0 x1 r hv hP
    · replace hv := (if_neg h9).symm.trans hv
      refine own_go (fun _ => XS.icmpNo X.here hx rfl (hb hby d1_9) rfl (XT.ii_eq_f h9)) ?_
      show own_WP p e below _ T (mkF m 12 #[.val (.int x0), .val (.int x1)] [])
      refine own_go (fun _ => XS.iloadN X.here hx rfl (hb hby d1_12) rfl) ?_
      show own_WP p e below _ T (mkF m 13 #[.val (.int x0), .val (.int x1)] [(.int x0)])
      refine own_go (fun _ => XS.bipush X.here hx rfl (hb hby d1_13)) ?_
      show own_WP p e below _ T (mkF m 15 #[.val (.int x0), .val (.int x1)] [(.int (10 : Int32)), (.int x0)])
      by_cases h15 : x0 = (10 : Int32)
      · replace hv := (if_pos h15).symm.trans hv
        refine own_go (fun _ => XS.icmpNo X.here hx rfl (hb hby d1_15) rfl (XT.ii_ne_f h15)) ?_
        exact b1_18 hw C X e0 x0 x1 r hv hP
      · replace hv := (if_neg h15).symm.trans hv
        refine own_go (fun _ => XS.icmpYes X.here hx rfl (pc0 := 15) (pc' := 42) rfl (hb hby d1_15) rfl (XT.ii_ne_t h15) (by decide) (by decide)) ?_
        show own_WP p e below _ T (mkF m 42 #[.val (.int x0), .val (.int x1)] [])
        refine own_go (fun _ => XS.iconst X.here hx rfl (hb hby d1_42)) ?_
        show own_WP p e below _ T (mkF m 43 #[.val (.int x0), .val (.int x1)] [(.int (1 : Int32))])
        refine own_go (fun _ => XS.goto X.here hx rfl (pc0 := 43) (pc' := 47) rfl (hb hby d1_43) (by decide) (by decide)) ?_
        show own_WP p e below _ T (mkF m 47 #[.val (.int x0), .val (.int x1)] [(.int (1 : Int32))])
        subst hv e0; exact own_retN X C (by simp) (hb hby d1_47) hP (by decide) (by decide)
  · replace hv := (if_neg h3).symm.trans hv
    refine own_go (fun _ => XS.icmpYes X.here hx rfl (pc0 := 3) (pc' := 18) rfl (hb hby d1_3) rfl (XT.ii_ge_t h3) (by decide) (by decide)) ?_
    exact b1_18 hw C X e0 x0 x1 r hv hP
theorem ef1 (m : MethodId) (x0 : Int32) (x1 : Int32) : entryFrame m #[(.int x0), (.int x1)] 2 = (mkF m 0 #[.val (.int x0), .val (.int x1)] []) := by first | (simp [entryFrame, mkF, argsToLocals, Value.category]; done) | rfl
theorem pd1 : parseMethodDescriptor "(IZ)Z" = some ⟨[.int, .boolean], some .boolean⟩ := by decide +kernel
theorem pn1 : plainFor (⟨"com/example/kvasir/kvasir/XmlVersion", "isReadOtherwise", "(IZ)Z"⟩ : MethodName) = true := plainFor_of_name (by first | (simp [plainName, overriddenIn]; done) | decide +kernel)
theorem rm1 (l : Launch) (Z : State) (a0 : Array Value) (hw : ∀ d ∈ tables_1, d.before a0 Z = true) (x0 : Int32) (x1 : Int32) (h0 : Heap) : own_Met l Z (⟨"com/example/kvasir/kvasir/XmlVersion", "isReadOtherwise", "(IZ)Z"⟩ : MethodName) prog_188_method_8_code 2 (some .boolean) [] rmR1 #[(.int x0), (.int x1)] h0 (fun v h L => v = some (.int (f1_0 x0 x1)) ∧ L = [] ∧ h = h0) := by
  refine own_body pn1 ?_
  intro p e s m below meth c s₁ C X e0
  exact own_cast (ef1 m x0 x1) (b1_0 hw C X e0 x0 x1 _ rfl ⟨rfl, rfl, rfl⟩)
theorem d2_0 : decode method_3_code 0 = .ok (.iload_n 0, 1) := by decide +kernel
theorem d2_1 : decode method_3_code 1 = .ok (.bipush 13, 2) := by decide +kernel
theorem d2_3 : decode method_3_code 3 = .ok (.if_icmp .ne 5, 3) := by decide +kernel
theorem d2_6 : decode method_3_code 6 = .ok (.iconst 1, 1) := by decide +kernel
theorem d2_7 : decode method_3_code 7 = .ok (.ireturn, 1) := by decide +kernel
theorem d2_8 : decode method_3_code 8 = .ok (.iload_n 0, 1) := by decide +kernel
theorem d2_9 : decode method_3_code 9 = .ok (.bipush 32, 2) := by decide +kernel
theorem d2_11 : decode method_3_code 11 = .ok (.if_icmp .ge 21, 3) := by decide +kernel
theorem d2_14 : decode method_3_code 14 = .ok (.iload_n 0, 1) := by decide +kernel
theorem d2_15 : decode method_3_code 15 = .ok (.bipush 9, 2) := by decide +kernel
theorem d2_17 : decode method_3_code 17 = .ok (.if_icmp .eq 13, 3) := by decide +kernel
theorem d2_20 : decode method_3_code 20 = .ok (.iload_n 0, 1) := by decide +kernel
theorem d2_21 : decode method_3_code 21 = .ok (.bipush 10, 2) := by decide +kernel
theorem d2_23 : decode method_3_code 23 = .ok (.if_icmp .eq 7, 3) := by decide +kernel
theorem d2_26 : decode method_3_code 26 = .ok (.iconst 1, 1) := by decide +kernel
theorem d2_27 : decode method_3_code 27 = .ok (.goto 4, 3) := by decide +kernel
theorem d2_30 : decode method_3_code 30 = .ok (.iconst 0, 1) := by decide +kernel
theorem d2_31 : decode method_3_code 31 = .ok (.ireturn, 1) := by decide +kernel
theorem d2_32 : decode method_3_code 32 = .ok (.iload_n 1, 1) := by decide +kernel
theorem d2_33 : decode method_3_code 33 = .ok (.ifCond .ne 5, 3) := by decide +kernel
theorem d2_36 : decode method_3_code 36 = .ok (.iconst 0, 1) := by decide +kernel
theorem d2_37 : decode method_3_code 37 = .ok (.ireturn, 1) := by decide +kernel
theorem d2_38 : decode method_3_code 38 = .ok (.iload_n 0, 1) := by decide +kernel
theorem d2_39 : decode method_3_code 39 = .ok (.sipush 133, 3) := by decide +kernel
theorem d2_42 : decode method_3_code 42 = .ok (.if_icmp .eq 10, 3) := by decide +kernel
theorem d2_45 : decode method_3_code 45 = .ok (.iload_n 0, 1) := by decide +kernel
theorem d2_46 : decode method_3_code 46 = .ok (.sipush 8232, 3) := by decide +kernel
theorem d2_49 : decode method_3_code 49 = .ok (.if_icmp .ne 5, 3) := by decide +kernel
theorem d2_52 : decode method_3_code 52 = .ok (.iconst 1, 1) := by decide +kernel
theorem d2_53 : decode method_3_code 53 = .ok (.ireturn, 1) := by decide +kernel
theorem d2_54 : decode method_3_code 54 = .ok (.iload_n 0, 1) := by decide +kernel
theorem d2_55 : decode method_3_code 55 = .ok (.bipush 127, 2) := by decide +kernel
theorem d2_57 : decode method_3_code 57 = .ok (.if_icmp .lt 14, 3) := by decide +kernel
theorem d2_60 : decode method_3_code 60 = .ok (.iload_n 0, 1) := by decide +kernel
theorem d2_61 : decode method_3_code 61 = .ok (.sipush 159, 3) := by decide +kernel
theorem d2_64 : decode method_3_code 64 = .ok (.if_icmp .gt 7, 3) := by decide +kernel
theorem d2_67 : decode method_3_code 67 = .ok (.iconst 1, 1) := by decide +kernel
theorem d2_68 : decode method_3_code 68 = .ok (.goto 4, 3) := by decide +kernel
theorem d2_71 : decode method_3_code 71 = .ok (.iconst 0, 1) := by decide +kernel
theorem d2_72 : decode method_3_code 72 = .ok (.ireturn, 1) := by decide +kernel
def rmR2 : Room := { frames := 0, cells := 0, slots := 0, locals := 0 }
def f2_0 (x0 : Int32) (x1 : Int32) : Int32 := (if x0 = (13 : Int32) then (1 : Int32) else (if x0 < (32 : Int32) then (if x0 = (9 : Int32) then (0 : Int32) else (if x0 = (10 : Int32) then (0 : Int32) else (1 : Int32))) else (if x1 = (0 : Int32) then (0 : Int32) else (if x0 = (133 : Int32) then (1 : Int32) else (if x0 = (8232 : Int32) then (1 : Int32) else (if x0 < (127 : Int32) then (0 : Int32) else (if (159 : Int32) < x0 then (0 : Int32) else (1 : Int32))))))))
set_option maxRecDepth 65536 in
set_option maxHeartbeats 40000000 in
theorem b2_0 {p : Program} {l : Launch} {e : Env} {s : State} {m : MethodId} {args : Array Value} {below : List Frame} {meth : Method} {c : Code} {T : State} {locs : List Loc} {Z : State} {a0 : Array Value} {h0 : Heap} {P : Option Value → Heap → List Loc → Prop} (hw : ∀ d ∈ tables_1, d.before a0 Z = true) (C : own_Ctx p s m meth c Z (⟨"com/example/kvasir/kvasir/XmlVersionIsReadOtherwisePinLaw", "expected", "(IZ)Z"⟩ : MethodName) method_3_code 2 (some .boolean))
    (X : Stand p l e rmR2 s m args below meth c T locs 0 0) (e0 : T.heap = h0) (x0 : Int32) (x1 : Int32) (r : Int32) (hv : f2_0 x0 x1 = r) (hP : P (some (.int r)) h0 locs) :
    own_WP p e below (own_Q s P rmR2.cells rmR2.slots) T (mkF m 0 #[.val (.int x0), .val (.int x1)] []) := by
  obtain ⟨hx, hZ, hby, hml, hown, hnm, hret, hlk⟩ := id C
  unfold f2_0 at hv
  show own_WP p e below _ T (mkF m 0 #[.val (.int x0), .val (.int x1)] [])
  refine own_go (fun _ => XS.iloadN X.here hx rfl (hb hby d2_0) rfl) ?_
  show own_WP p e below _ T (mkF m 1 #[.val (.int x0), .val (.int x1)] [(.int x0)])
  refine own_go (fun _ => XS.bipush X.here hx rfl (hb hby d2_1)) ?_
  show own_WP p e below _ T (mkF m 3 #[.val (.int x0), .val (.int x1)] [(.int (13 : Int32)), (.int x0)])
  by_cases h3 : x0 = (13 : Int32)
  · replace hv := (if_pos h3).symm.trans hv
    refine own_go (fun _ => XS.icmpNo X.here hx rfl (hb hby d2_3) rfl (XT.ii_ne_f h3)) ?_
    show own_WP p e below _ T (mkF m 6 #[.val (.int x0), .val (.int x1)] [])
    refine own_go (fun _ => XS.iconst X.here hx rfl (hb hby d2_6)) ?_
    show own_WP p e below _ T (mkF m 7 #[.val (.int x0), .val (.int x1)] [(.int (1 : Int32))])
    subst hv e0; exact own_retN X C (by simp) (hb hby d2_7) hP (by decide) (by decide)
  · replace hv := (if_neg h3).symm.trans hv
    refine own_go (fun _ => XS.icmpYes X.here hx rfl (pc0 := 3) (pc' := 8) rfl (hb hby d2_3) rfl (XT.ii_ne_t h3) (by decide) (by decide)) ?_
    show own_WP p e below _ T (mkF m 8 #[.val (.int x0), .val (.int x1)] [])
    refine own_go (fun _ => XS.iloadN X.here hx rfl (hb hby d2_8) rfl) ?_
    show own_WP p e below _ T (mkF m 9 #[.val (.int x0), .val (.int x1)] [(.int x0)])
    refine own_go (fun _ => XS.bipush X.here hx rfl (hb hby d2_9)) ?_
    show own_WP p e below _ T (mkF m 11 #[.val (.int x0), .val (.int x1)] [(.int (32 : Int32)), (.int x0)])
    by_cases h11 : x0 < (32 : Int32)
    · replace hv := (if_pos h11).symm.trans hv
      refine own_go (fun _ => XS.icmpNo X.here hx rfl (hb hby d2_11) rfl (XT.ii_ge_f h11)) ?_
      show own_WP p e below _ T (mkF m 14 #[.val (.int x0), .val (.int x1)] [])
      refine own_go (fun _ => XS.iloadN X.here hx rfl (hb hby d2_14) rfl) ?_
      show own_WP p e below _ T (mkF m 15 #[.val (.int x0), .val (.int x1)] [(.int x0)])
      refine own_go (fun _ => XS.bipush X.here hx rfl (hb hby d2_15)) ?_
      show own_WP p e below _ T (mkF m 17 #[.val (.int x0), .val (.int x1)] [(.int (9 : Int32)), (.int x0)])
      by_cases h17 : x0 = (9 : Int32)
      · replace hv := (if_pos h17).symm.trans hv
        refine own_go (fun _ => XS.icmpYes X.here hx rfl (pc0 := 17) (pc' := 30) rfl (hb hby d2_17) rfl (XT.ii_eq_t h17) (by decide) (by decide)) ?_
        show own_WP p e below _ T (mkF m 30 #[.val (.int x0), .val (.int x1)] [])
        refine own_go (fun _ => XS.iconst X.here hx rfl (hb hby d2_30)) ?_
        show own_WP p e below _ T (mkF m 31 #[.val (.int x0), .val (.int x1)] [(.int (0 : Int32))])
        subst hv e0; exact own_retN X C (by simp) (hb hby d2_31) hP (by decide) (by decide)
      · replace hv := (if_neg h17).symm.trans hv
        refine own_go (fun _ => XS.icmpNo X.here hx rfl (hb hby d2_17) rfl (XT.ii_eq_f h17)) ?_
        show own_WP p e below _ T (mkF m 20 #[.val (.int x0), .val (.int x1)] [])
        refine own_go (fun _ => XS.iloadN X.here hx rfl (hb hby d2_20) rfl) ?_
        show own_WP p e below _ T (mkF m 21 #[.val (.int x0), .val (.int x1)] [(.int x0)])
        refine own_go (fun _ => XS.bipush X.here hx rfl (hb hby d2_21)) ?_
        show own_WP p e below _ T (mkF m 23 #[.val (.int x0), .val (.int x1)] [(.int (10 : Int32)), (.int x0)])
        by_cases h23 : x0 = (10 : Int32)
        · replace hv := (if_pos h23).symm.trans hv
          refine own_go (fun _ => XS.icmpYes X.here hx rfl (pc0 := 23) (pc' := 30) rfl (hb hby d2_23) rfl (XT.ii_eq_t h23) (by decide) (by decide)) ?_
          show own_WP p e below _ T (mkF m 30 #[.val (.int x0), .val (.int x1)] [])
          refine own_go (fun _ => XS.iconst X.here hx rfl (hb hby d2_30)) ?_
          show own_WP p e below _ T (mkF m 31 #[.val (.int x0), .val (.int x1)] [(.int (0 : Int32))])
          subst hv e0; exact own_retN X C (by simp) (hb hby d2_31) hP (by decide) (by decide)
        · replace hv := (if_neg h23).symm.trans hv
          refine own_go (fun _ => XS.icmpNo X.here hx rfl (hb hby d2_23) rfl (XT.ii_eq_f h23)) ?_
          show own_WP p e below _ T (mkF m 26 #[.val (.int x0), .val (.int x1)] [])
          refine own_go (fun _ => XS.iconst X.here hx rfl (hb hby d2_26)) ?_
          show own_WP p e below _ T (mkF m 27 #[.val (.int x0), .val (.int x1)] [(.int (1 : Int32))])
          refine own_go (fun _ => XS.goto X.here hx rfl (pc0 := 27) (pc' := 31) rfl (hb hby d2_27) (by decide) (by decide)) ?_
          show own_WP p e below _ T (mkF m 31 #[.val (.int x0), .val (.int x1)] [(.int (1 : Int32))])
          subst hv e0; exact own_retN X C (by simp) (hb hby d2_31) hP (by decide) (by decide)
    · replace hv := (if_neg h11).symm.trans hv
      refine own_go (fun _ => XS.icmpYes X.here hx rfl (pc0 := 11) (pc' := 32) rfl (hb hby d2_11) rfl (XT.ii_ge_t h11) (by decide) (by decide)) ?_
      show own_WP p e below _ T (mkF m 32 #[.val (.int x0), .val (.int x1)] [])
      refine own_go (fun _ => XS.iloadN X.here hx rfl (hb hby d2_32) rfl) ?_
      show own_WP p e below _ T (mkF m 33 #[.val (.int x0), .val (.int x1)] [(.int x1)])
      by_cases h33 : x1 = (0 : Int32)
      · replace hv := (if_pos h33).symm.trans hv
        refine own_go (fun _ => XS.ifNo X.here hx rfl (hb hby d2_33) rfl (XT.i0_ne_f h33)) ?_
        show own_WP p e below _ T (mkF m 36 #[.val (.int x0), .val (.int x1)] [])
        refine own_go (fun _ => XS.iconst X.here hx rfl (hb hby d2_36)) ?_
        show own_WP p e below _ T (mkF m 37 #[.val (.int x0), .val (.int x1)] [(.int (0 : Int32))])
        subst hv e0; exact own_retN X C (by simp) (hb hby d2_37) hP (by decide) (by decide)
      · replace hv := (if_neg h33).symm.trans hv
        refine own_go (fun _ => XS.ifYes X.here hx rfl (pc0 := 33) (pc' := 38) rfl (hb hby d2_33) rfl (XT.i0_ne_t h33) (by decide) (by decide)) ?_
        show own_WP p e below _ T (mkF m 38 #[.val (.int x0), .val (.int x1)] [])
        refine own_go (fun _ => XS.iloadN X.here hx rfl (hb hby d2_38) rfl) ?_
        show own_WP p e below _ T (mkF m 39 #[.val (.int x0), .val (.int x1)] [(.int x0)])
        refine own_go (fun _ => XS.sipush X.here hx rfl (hb hby d2_39)) ?_
        show own_WP p e below _ T (mkF m 42 #[.val (.int x0), .val (.int x1)] [(.int (133 : Int32)), (.int x0)])
        by_cases h42 : x0 = (133 : Int32)
        · replace hv := (if_pos h42).symm.trans hv
          refine own_go (fun _ => XS.icmpYes X.here hx rfl (pc0 := 42) (pc' := 52) rfl (hb hby d2_42) rfl (XT.ii_eq_t h42) (by decide) (by decide)) ?_
          show own_WP p e below _ T (mkF m 52 #[.val (.int x0), .val (.int x1)] [])
          refine own_go (fun _ => XS.iconst X.here hx rfl (hb hby d2_52)) ?_
          show own_WP p e below _ T (mkF m 53 #[.val (.int x0), .val (.int x1)] [(.int (1 : Int32))])
          subst hv e0; exact own_retN X C (by simp) (hb hby d2_53) hP (by decide) (by decide)
        · replace hv := (if_neg h42).symm.trans hv
          refine own_go (fun _ => XS.icmpNo X.here hx rfl (hb hby d2_42) rfl (XT.ii_eq_f h42)) ?_
          show own_WP p e below _ T (mkF m 45 #[.val (.int x0), .val (.int x1)] [])
          refine own_go (fun _ => XS.iloadN X.here hx rfl (hb hby d2_45) rfl) ?_
          show own_WP p e below _ T (mkF m 46 #[.val (.int x0), .val (.int x1)] [(.int x0)])
          refine own_go (fun _ => XS.sipush X.here hx rfl (hb hby d2_46)) ?_
          show own_WP p e below _ T (mkF m 49 #[.val (.int x0), .val (.int x1)] [(.int (8232 : Int32)), (.int x0)])
          by_cases h49 : x0 = (8232 : Int32)
          · replace hv := (if_pos h49).symm.trans hv
            refine own_go (fun _ => XS.icmpNo X.here hx rfl (hb hby d2_49) rfl (XT.ii_ne_f h49)) ?_
            show own_WP p e below _ T (mkF m 52 #[.val (.int x0), .val (.int x1)] [])
            refine own_go (fun _ => XS.iconst X.here hx rfl (hb hby d2_52)) ?_
            show own_WP p e below _ T (mkF m 53 #[.val (.int x0), .val (.int x1)] [(.int (1 : Int32))])
            subst hv e0; exact own_retN X C (by simp) (hb hby d2_53) hP (by decide) (by decide)
          · replace hv := (if_neg h49).symm.trans hv
            refine own_go (fun _ => XS.icmpYes X.here hx rfl (pc0 := 49) (pc' := 54) rfl (hb hby d2_49) rfl (XT.ii_ne_t h49) (by decide) (by decide)) ?_
            show own_WP p e below _ T (mkF m 54 #[.val (.int x0), .val (.int x1)] [])
            refine own_go (fun _ => XS.iloadN X.here hx rfl (hb hby d2_54) rfl) ?_
            show own_WP p e below _ T (mkF m 55 #[.val (.int x0), .val (.int x1)] [(.int x0)])
            refine own_go (fun _ => XS.bipush X.here hx rfl (hb hby d2_55)) ?_
            show own_WP p e below _ T (mkF m 57 #[.val (.int x0), .val (.int x1)] [(.int (127 : Int32)), (.int x0)])
            by_cases h57 : x0 < (127 : Int32)
            · replace hv := (if_pos h57).symm.trans hv
              refine own_go (fun _ => XS.icmpYes X.here hx rfl (pc0 := 57) (pc' := 71) rfl (hb hby d2_57) rfl (XT.ii_lt_t h57) (by decide) (by decide)) ?_
              show own_WP p e below _ T (mkF m 71 #[.val (.int x0), .val (.int x1)] [])
              refine own_go (fun _ => XS.iconst X.here hx rfl (hb hby d2_71)) ?_
              show own_WP p e below _ T (mkF m 72 #[.val (.int x0), .val (.int x1)] [(.int (0 : Int32))])
              subst hv e0; exact own_retN X C (by simp) (hb hby d2_72) hP (by decide) (by decide)
            · replace hv := (if_neg h57).symm.trans hv
              refine own_go (fun _ => XS.icmpNo X.here hx rfl (hb hby d2_57) rfl (XT.ii_lt_f h57)) ?_
              show own_WP p e below _ T (mkF m 60 #[.val (.int x0), .val (.int x1)] [])
              refine own_go (fun _ => XS.iloadN X.here hx rfl (hb hby d2_60) rfl) ?_
              show own_WP p e below _ T (mkF m 61 #[.val (.int x0), .val (.int x1)] [(.int x0)])
              refine own_go (fun _ => XS.sipush X.here hx rfl (hb hby d2_61)) ?_
              show own_WP p e below _ T (mkF m 64 #[.val (.int x0), .val (.int x1)] [(.int (159 : Int32)), (.int x0)])
              by_cases h64 : (159 : Int32) < x0
              · replace hv := (if_pos h64).symm.trans hv
                refine own_go (fun _ => XS.icmpYes X.here hx rfl (pc0 := 64) (pc' := 71) rfl (hb hby d2_64) rfl (XT.ii_gt_t h64) (by decide) (by decide)) ?_
                show own_WP p e below _ T (mkF m 71 #[.val (.int x0), .val (.int x1)] [])
                refine own_go (fun _ => XS.iconst X.here hx rfl (hb hby d2_71)) ?_
                show own_WP p e below _ T (mkF m 72 #[.val (.int x0), .val (.int x1)] [(.int (0 : Int32))])
                subst hv e0; exact own_retN X C (by simp) (hb hby d2_72) hP (by decide) (by decide)
              · replace hv := (if_neg h64).symm.trans hv
                refine own_go (fun _ => XS.icmpNo X.here hx rfl (hb hby d2_64) rfl (XT.ii_gt_f h64)) ?_
                show own_WP p e below _ T (mkF m 67 #[.val (.int x0), .val (.int x1)] [])
                refine own_go (fun _ => XS.iconst X.here hx rfl (hb hby d2_67)) ?_
                show own_WP p e below _ T (mkF m 68 #[.val (.int x0), .val (.int x1)] [(.int (1 : Int32))])
                refine own_go (fun _ => XS.goto X.here hx rfl (pc0 := 68) (pc' := 72) rfl (hb hby d2_68) (by decide) (by decide)) ?_
                show own_WP p e below _ T (mkF m 72 #[.val (.int x0), .val (.int x1)] [(.int (1 : Int32))])
                subst hv e0; exact own_retN X C (by simp) (hb hby d2_72) hP (by decide) (by decide)
theorem ef2 (m : MethodId) (x0 : Int32) (x1 : Int32) : entryFrame m #[(.int x0), (.int x1)] 2 = (mkF m 0 #[.val (.int x0), .val (.int x1)] []) := by first | (simp [entryFrame, mkF, argsToLocals, Value.category]; done) | rfl
theorem pd2 : parseMethodDescriptor "(IZ)Z" = some ⟨[.int, .boolean], some .boolean⟩ := by decide +kernel
theorem pn2 : plainFor (⟨"com/example/kvasir/kvasir/XmlVersionIsReadOtherwisePinLaw", "expected", "(IZ)Z"⟩ : MethodName) = true := plainFor_of_name (by first | (simp [plainName, overriddenIn]; done) | decide +kernel)
theorem rm2 (l : Launch) (Z : State) (a0 : Array Value) (hw : ∀ d ∈ tables_1, d.before a0 Z = true) (x0 : Int32) (x1 : Int32) (h0 : Heap) : own_Met l Z (⟨"com/example/kvasir/kvasir/XmlVersionIsReadOtherwisePinLaw", "expected", "(IZ)Z"⟩ : MethodName) method_3_code 2 (some .boolean) [] rmR2 #[(.int x0), (.int x1)] h0 (fun v h L => v = some (.int (f2_0 x0 x1)) ∧ L = [] ∧ h = h0) := by
  refine own_body pn2 ?_
  intro p e s m below meth c s₁ C X e0
  exact own_cast (ef2 m x0 x1) (b2_0 hw C X e0 x0 x1 _ rfl ⟨rfl, rfl, rfl⟩)
def f0_59 (x2 : Int32) (x4 : Int32) : Int32 := (if (f1_0 x4 x2) = (f2_0 x4 x2) then (1 : Int32) else (0 : Int32))
set_option maxRecDepth 65536 in
set_option maxHeartbeats 40000000 in
theorem b0_59 {p : Program} {l : Launch} {e : Env} {s : State} {m : MethodId} {args : Array Value} {below : List Frame} {meth : Method} {c : Code} {T : State} {locs : List Loc} {Z : State} {a0 : Array Value} {h0 : Heap} {P : Option Value → Heap → List Loc → Prop} (hw : ∀ d ∈ tables_1, d.before a0 Z = true) (C : own_Ctx p s m meth c Z x code maxLocals ret)
    (X : Stand p l e room_1 s m args below meth c T locs 0 0) (e0 : T.heap = h0) (x0 : Int32) (x1 : Int32) (x2 : Int32) (x3 : Int32) (x4 : Int32) (r : Int32) (hv : f0_59 x2 x4 = r) (hP : P (some (.int r)) h0 locs) :
    own_WP p e below (own_Q s P room_1.cells room_1.slots) T (mkF m 59 #[.val (.int x0), .val (.int x1), .val (.int x2), .val (.int x3), .val (.int x4)] []) := by
  obtain ⟨hx, hZ, hby, hml, hown, hnm, hret, hlk⟩ := id C
  unfold f0_59 at hv
  show own_WP p e below _ T (mkF m 59 #[.val (.int x0), .val (.int x1), .val (.int x2), .val (.int x3), .val (.int x4)] [])
  refine own_go (fun _ => XS.iload X.here hx rfl (hb hby at_59) rfl) ?_
  show own_WP p e below _ T (mkF m 61 #[.val (.int x0), .val (.int x1), .val (.int x2), .val (.int x3), .val (.int x4)] [(.int x4)])
  refine own_go (fun _ => XS.iloadN X.here hx rfl (hb hby at_61) rfl) ?_
  show own_WP p e below _ T (mkF m 62 #[.val (.int x0), .val (.int x1), .val (.int x2), .val (.int x3), .val (.int x4)] [(.int x2), (.int x4)])
  obtain ⟨T, v', L', X, ⟨rfl, rfl, e0⟩, st'⟩ := own_callS X C (rm1 l Z a0 hw x4 x2 h0) (hw _ (List.mem_of_getElem? (i := 0) rfl)) (hw _ (List.mem_of_getElem? (i := 1) rfl)) (hw _ (List.mem_of_getElem? (i := 2) rfl)) (hw _ (List.mem_of_getElem? (i := 3) rfl)) (by decide) e0 (W := 0) (pc := 62) (Ls := #[.val (.int x0), .val (.int x1), .val (.int x2), .val (.int x3), .val (.int x4)]) rfl (lenOf pd1 rfl) (rest := []) (stk := [(.int x2), (.int x4)]) rfl (Nat.le_of_ble_eq_true rfl) (hb hby at_62) (by decide) (by decide) (by decide) (by decide)
  rw [List.append_nil] at X
  refine own_go st' ?_
  show own_WP p e below _ T (mkF m 65 #[.val (.int x0), .val (.int x1), .val (.int x2), .val (.int x3), .val (.int x4)] [(.int (f1_0 x4 x2))])
  refine own_go (fun _ => XS.iload X.here hx rfl (hb hby at_65) rfl) ?_
  show own_WP p e below _ T (mkF m 67 #[.val (.int x0), .val (.int x1), .val (.int x2), .val (.int x3), .val (.int x4)] [(.int x4), (.int (f1_0 x4 x2))])
  refine own_go (fun _ => XS.iloadN X.here hx rfl (hb hby at_67) rfl) ?_
  show own_WP p e below _ T (mkF m 68 #[.val (.int x0), .val (.int x1), .val (.int x2), .val (.int x3), .val (.int x4)] [(.int x2), (.int x4), (.int (f1_0 x4 x2))])
  obtain ⟨T, v', L', X, ⟨rfl, rfl, e0⟩, st'⟩ := own_callS X C (rm2 l Z a0 hw x4 x2 h0) (hw _ (List.mem_of_getElem? (i := 4) rfl)) (hw _ (List.mem_of_getElem? (i := 5) rfl)) (hw _ (List.mem_of_getElem? (i := 6) rfl)) (hw _ (List.mem_of_getElem? (i := 7) rfl)) (by decide) e0 (W := 1) (pc := 68) (Ls := #[.val (.int x0), .val (.int x1), .val (.int x2), .val (.int x3), .val (.int x4)]) rfl (lenOf pd2 rfl) (rest := [(.int (f1_0 x4 x2))]) (stk := [(.int x2), (.int x4), (.int (f1_0 x4 x2))]) rfl (Nat.le_of_ble_eq_true rfl) (hb hby at_68) (by decide) (by decide) (by decide) (by decide)
  rw [List.append_nil] at X
  refine own_go st' ?_
  show own_WP p e below _ T (mkF m 71 #[.val (.int x0), .val (.int x1), .val (.int x2), .val (.int x3), .val (.int x4)] [(.int (f2_0 x4 x2)), (.int (f1_0 x4 x2))])
  by_cases h71 : (f1_0 x4 x2) = (f2_0 x4 x2)
  · replace hv := (if_pos h71).symm.trans hv
    refine own_go (fun _ => XS.icmpNo X.here hx rfl (hb hby at_71) rfl (XT.ii_ne_f h71)) ?_
    show own_WP p e below _ T (mkF m 74 #[.val (.int x0), .val (.int x1), .val (.int x2), .val (.int x3), .val (.int x4)] [])
    refine own_go (fun _ => XS.iconst X.here hx rfl (hb hby at_74)) ?_
    show own_WP p e below _ T (mkF m 75 #[.val (.int x0), .val (.int x1), .val (.int x2), .val (.int x3), .val (.int x4)] [(.int (1 : Int32))])
    refine own_go (fun _ => XS.goto X.here hx rfl (pc0 := 75) (pc' := 79) rfl (hb hby at_75) (by decide) (by decide)) ?_
    show own_WP p e below _ T (mkF m 79 #[.val (.int x0), .val (.int x1), .val (.int x2), .val (.int x3), .val (.int x4)] [(.int (1 : Int32))])
    subst hv e0; exact own_retN X C (by simp) (hb hby at_79) hP (by decide) (by decide)
  · replace hv := (if_neg h71).symm.trans hv
    refine own_go (fun _ => XS.icmpYes X.here hx rfl (pc0 := 71) (pc' := 78) rfl (hb hby at_71) rfl (XT.ii_ne_t h71) (by decide) (by decide)) ?_
    show own_WP p e below _ T (mkF m 78 #[.val (.int x0), .val (.int x1), .val (.int x2), .val (.int x3), .val (.int x4)] [])
    refine own_go (fun _ => XS.iconst X.here hx rfl (hb hby at_78)) ?_
    show own_WP p e below _ T (mkF m 79 #[.val (.int x0), .val (.int x1), .val (.int x2), .val (.int x3), .val (.int x4)] [(.int (0 : Int32))])
    subst hv e0; exact own_retN X C (by simp) (hb hby at_79) hP (by decide) (by decide)
def f0_47 (x2 : Int32) (x4 : Int32) : Int32 := (f0_59 x2 x4)
set_option maxRecDepth 65536 in
set_option maxHeartbeats 40000000 in
theorem b0_47 {p : Program} {l : Launch} {e : Env} {s : State} {m : MethodId} {args : Array Value} {below : List Frame} {meth : Method} {c : Code} {T : State} {locs : List Loc} {Z : State} {a0 : Array Value} {h0 : Heap} {P : Option Value → Heap → List Loc → Prop} (hw : ∀ d ∈ tables_1, d.before a0 Z = true) (C : own_Ctx p s m meth c Z x code maxLocals ret)
    (X : Stand p l e room_1 s m args below meth c T locs 0 0) (e0 : T.heap = h0) (x0 : Int32) (x1 : Int32) (x2 : Int32) (x3 : Int32) (x4 : Int32) (r : Int32) (hv : f0_47 x2 x4 = r) (hP : P (some (.int r)) h0 locs) :
    own_WP p e below (own_Q s P room_1.cells room_1.slots) T (mkF m 47 #[.val (.int x0), .val (.int x1), .val (.int x2), .val (.int x3), .val (.int x4)] []) := by
  obtain ⟨hx, hZ, hby, hml, hown, hnm, hret, hlk⟩ := id C
  unfold f0_47 at hv
  show own_WP p e below _ T (mkF m 47 #[.val (.int x0), .val (.int x1), .val (.int x2), .val (.int x3), .val (.int x4)] [])
  refine own_go (fun _ => XS.goto X.here hx rfl (pc0 := 47) (pc' := 59) rfl (hb hby at_47) (by decide) (by decide)) ?_
  exact b0_59 hw C X e0 x0 x1 x2 x3 x4 r hv hP
def f0_18 (x0 : Int32) (x2 : Int32) (x3 : Int32) : Int32 := (if x3 = (0 : Int32) then (f0_59 x2 (x0 &&& (255 : Int32))) else (if x3 = (1 : Int32) then (f0_47 x2 ((8192 : Int32) + (x0 &&& (63 : Int32)))) else (f0_59 x2 ((x0 &&& (2147483647 : Int32)) % (1114112 : Int32)))))
set_option maxRecDepth 65536 in
set_option maxHeartbeats 40000000 in
theorem b0_18 {p : Program} {l : Launch} {e : Env} {s : State} {m : MethodId} {args : Array Value} {below : List Frame} {meth : Method} {c : Code} {T : State} {locs : List Loc} {Z : State} {a0 : Array Value} {h0 : Heap} {P : Option Value → Heap → List Loc → Prop} (hw : ∀ d ∈ tables_1, d.before a0 Z = true) (C : own_Ctx p s m meth c Z x code maxLocals ret)
    (X : Stand p l e room_1 s m args below meth c T locs 0 0) (e0 : T.heap = h0) (x0 : Int32) (x1 : Int32) (x2 : Int32) (x3 : Int32) (r : Int32) (hv : f0_18 x0 x2 x3 = r) (hP : P (some (.int r)) h0 locs) :
    own_WP p e below (own_Q s P room_1.cells room_1.slots) T (mkF m 18 #[.val (.int x0), .val (.int x1), .val (.int x2), .val (.int x3), .unset] []) := by
  obtain ⟨hx, hZ, hby, hml, hown, hnm, hret, hlk⟩ := id C
  unfold f0_18 at hv
  show own_WP p e below _ T (mkF m 18 #[.val (.int x0), .val (.int x1), .val (.int x2), .val (.int x3), .unset] [])
  refine own_go (fun _ => XS.iloadN X.here hx rfl (hb hby at_18) rfl) ?_
  show own_WP p e below _ T (mkF m 19 #[.val (.int x0), .val (.int x1), .val (.int x2), .val (.int x3), .unset] [(.int x3)])
  by_cases h19 : x3 = (0 : Int32)
  · replace hv := (if_pos h19).symm.trans hv
    refine own_go (fun _ => XS.ifNo X.here hx rfl (hb hby at_19) rfl (XT.i0_ne_f h19)) ?_
    show own_WP p e below _ T (mkF m 22 #[.val (.int x0), .val (.int x1), .val (.int x2), .val (.int x3), .unset] [])
    refine own_go (fun _ => XS.iloadN X.here hx rfl (hb hby at_22) rfl) ?_
    show own_WP p e below _ T (mkF m 23 #[.val (.int x0), .val (.int x1), .val (.int x2), .val (.int x3), .unset] [(.int x0)])
    refine own_go (fun _ => XS.sipush X.here hx rfl (hb hby at_23)) ?_
    show own_WP p e below _ T (mkF m 26 #[.val (.int x0), .val (.int x1), .val (.int x2), .val (.int x3), .unset] [(.int (255 : Int32)), (.int x0)])
    refine own_go (fun _ => XS.iand X.here hx rfl (hb hby at_26) rfl) ?_
    show own_WP p e below _ T (mkF m 27 #[.val (.int x0), .val (.int x1), .val (.int x2), .val (.int x3), .unset] [(.int (x0 &&& (255 : Int32)))])
    refine own_go (fun _ => XS.istore X.here hx rfl (hb hby at_27) rfl (l' := #[.val (.int x0), .val (.int x1), .val (.int x2), .val (.int x3), .val (.int (x0 &&& (255 : Int32)))]) rfl) ?_
    show own_WP p e below _ T (mkF m 29 #[.val (.int x0), .val (.int x1), .val (.int x2), .val (.int x3), .val (.int (x0 &&& (255 : Int32)))] [])
    refine own_go (fun _ => XS.goto X.here hx rfl (pc0 := 29) (pc' := 59) rfl (hb hby at_29) (by decide) (by decide)) ?_
    exact b0_59 hw C X e0 x0 x1 x2 x3 (x0 &&& (255 : Int32)) r hv hP
  · replace hv := (if_neg h19).symm.trans hv
    refine own_go (fun _ => XS.ifYes X.here hx rfl (pc0 := 19) (pc' := 32) rfl (hb hby at_19) rfl (XT.i0_ne_t h19) (by decide) (by decide)) ?_
    show own_WP p e below _ T (mkF m 32 #[.val (.int x0), .val (.int x1), .val (.int x2), .val (.int x3), .unset] [])
    refine own_go (fun _ => XS.iloadN X.here hx rfl (hb hby at_32) rfl) ?_
    show own_WP p e below _ T (mkF m 33 #[.val (.int x0), .val (.int x1), .val (.int x2), .val (.int x3), .unset] [(.int x3)])
    refine own_go (fun _ => XS.iconst X.here hx rfl (hb hby at_33)) ?_
    show own_WP p e below _ T (mkF m 34 #[.val (.int x0), .val (.int x1), .val (.int x2), .val (.int x3), .unset] [(.int (1 : Int32)), (.int x3)])
    by_cases h34 : x3 = (1 : Int32)
    · replace hv := (if_pos h34).symm.trans hv
      refine own_go (fun _ => XS.icmpNo X.here hx rfl (hb hby at_34) rfl (XT.ii_ne_f h34)) ?_
      show own_WP p e below _ T (mkF m 37 #[.val (.int x0), .val (.int x1), .val (.int x2), .val (.int x3), .unset] [])
      refine own_go (fun _ => XS.sipush X.here hx rfl (hb hby at_37)) ?_
      show own_WP p e below _ T (mkF m 40 #[.val (.int x0), .val (.int x1), .val (.int x2), .val (.int x3), .unset] [(.int (8192 : Int32))])
      refine own_go (fun _ => XS.iloadN X.here hx rfl (hb hby at_40) rfl) ?_
      show own_WP p e below _ T (mkF m 41 #[.val (.int x0), .val (.int x1), .val (.int x2), .val (.int x3), .unset] [(.int x0), (.int (8192 : Int32))])
      refine own_go (fun _ => XS.bipush X.here hx rfl (hb hby at_41)) ?_
      show own_WP p e below _ T (mkF m 43 #[.val (.int x0), .val (.int x1), .val (.int x2), .val (.int x3), .unset] [(.int (63 : Int32)), (.int x0), (.int (8192 : Int32))])
      refine own_go (fun _ => XS.iand X.here hx rfl (hb hby at_43) rfl) ?_
      show own_WP p e below _ T (mkF m 44 #[.val (.int x0), .val (.int x1), .val (.int x2), .val (.int x3), .unset] [(.int (x0 &&& (63 : Int32))), (.int (8192 : Int32))])
      refine own_go (fun _ => XS.iadd X.here hx rfl (hb hby at_44) rfl) ?_
      show own_WP p e below _ T (mkF m 45 #[.val (.int x0), .val (.int x1), .val (.int x2), .val (.int x3), .unset] [(.int ((8192 : Int32) + (x0 &&& (63 : Int32))))])
      refine own_go (fun _ => XS.istore X.here hx rfl (hb hby at_45) rfl (l' := #[.val (.int x0), .val (.int x1), .val (.int x2), .val (.int x3), .val (.int ((8192 : Int32) + (x0 &&& (63 : Int32))))]) rfl) ?_
      exact b0_47 hw C X e0 x0 x1 x2 x3 ((8192 : Int32) + (x0 &&& (63 : Int32))) r hv hP
    · replace hv := (if_neg h34).symm.trans hv
      refine own_go (fun _ => XS.icmpYes X.here hx rfl (pc0 := 34) (pc' := 50) rfl (hb hby at_34) rfl (XT.ii_ne_t h34) (by decide) (by decide)) ?_
      show own_WP p e below _ T (mkF m 50 #[.val (.int x0), .val (.int x1), .val (.int x2), .val (.int x3), .unset] [])
      refine own_go (fun _ => XS.iloadN X.here hx rfl (hb hby at_50) rfl) ?_
      show own_WP p e below _ T (mkF m 51 #[.val (.int x0), .val (.int x1), .val (.int x2), .val (.int x3), .unset] [(.int x0)])
      refine own_go (X.ldcInt hx hown (mvT hZ (hw _ (List.mem_of_getElem? (i := 8) rfl))) (g := (mkF m 51 #[.val (.int x0), .val (.int x1), .val (.int x2), .val (.int x3), .unset] [(.int x0)])) rfl (hb hby at_51)) ?_
      show own_WP p e below _ T (mkF m 53 #[.val (.int x0), .val (.int x1), .val (.int x2), .val (.int x3), .unset] [(.int (2147483647 : Int32)), (.int x0)])
      refine own_go (fun _ => XS.iand X.here hx rfl (hb hby at_53) rfl) ?_
      show own_WP p e below _ T (mkF m 54 #[.val (.int x0), .val (.int x1), .val (.int x2), .val (.int x3), .unset] [(.int (x0 &&& (2147483647 : Int32)))])
      refine own_go (X.ldcInt hx hown (mvT hZ (hw _ (List.mem_of_getElem? (i := 9) rfl))) (g := (mkF m 54 #[.val (.int x0), .val (.int x1), .val (.int x2), .val (.int x3), .unset] [(.int (x0 &&& (2147483647 : Int32)))])) rfl (hb hby at_54)) ?_
      show own_WP p e below _ T (mkF m 56 #[.val (.int x0), .val (.int x1), .val (.int x2), .val (.int x3), .unset] [(.int (1114112 : Int32)), (.int (x0 &&& (2147483647 : Int32)))])
      refine own_go (fun _ => iremM X hx rfl (hb hby at_56) rfl (by decide)) ?_
      show own_WP p e below _ T (mkF m 57 #[.val (.int x0), .val (.int x1), .val (.int x2), .val (.int x3), .unset] [(.int ((x0 &&& (2147483647 : Int32)) % (1114112 : Int32)))])
      refine own_go (fun _ => XS.istore X.here hx rfl (hb hby at_57) rfl (l' := #[.val (.int x0), .val (.int x1), .val (.int x2), .val (.int x3), .val (.int ((x0 &&& (2147483647 : Int32)) % (1114112 : Int32)))]) rfl) ?_
      exact b0_59 hw C X e0 x0 x1 x2 x3 ((x0 &&& (2147483647 : Int32)) % (1114112 : Int32)) r hv hP
def f0_11 (x0 : Int32) (x1 : Int32) (t0 : Int32) : Int32 := (f0_18 x0 t0 ((XT.ushr x1 (1 : Int32)) &&& (3 : Int32)))
set_option maxRecDepth 65536 in
set_option maxHeartbeats 40000000 in
theorem b0_11 {p : Program} {l : Launch} {e : Env} {s : State} {m : MethodId} {args : Array Value} {below : List Frame} {meth : Method} {c : Code} {T : State} {locs : List Loc} {Z : State} {a0 : Array Value} {h0 : Heap} {P : Option Value → Heap → List Loc → Prop} (hw : ∀ d ∈ tables_1, d.before a0 Z = true) (C : own_Ctx p s m meth c Z x code maxLocals ret)
    (X : Stand p l e room_1 s m args below meth c T locs 0 0) (e0 : T.heap = h0) (x0 : Int32) (x1 : Int32) (t0 : Int32) (r : Int32) (hv : f0_11 x0 x1 t0 = r) (hP : P (some (.int r)) h0 locs) :
    own_WP p e below (own_Q s P room_1.cells room_1.slots) T (mkF m 11 #[.val (.int x0), .val (.int x1), .unset, .unset, .unset] [(.int t0)]) := by
  obtain ⟨hx, hZ, hby, hml, hown, hnm, hret, hlk⟩ := id C
  unfold f0_11 at hv
  show own_WP p e below _ T (mkF m 11 #[.val (.int x0), .val (.int x1), .unset, .unset, .unset] [(.int t0)])
  refine own_go (fun _ => XS.istoreN X.here hx rfl (hb hby at_11) rfl (l' := #[.val (.int x0), .val (.int x1), .val (.int t0), .unset, .unset]) rfl) ?_
  show own_WP p e below _ T (mkF m 12 #[.val (.int x0), .val (.int x1), .val (.int t0), .unset, .unset] [])
  refine own_go (fun _ => XS.iloadN X.here hx rfl (hb hby at_12) rfl) ?_
  show own_WP p e below _ T (mkF m 13 #[.val (.int x0), .val (.int x1), .val (.int t0), .unset, .unset] [(.int x1)])
  refine own_go (fun _ => XS.iconst X.here hx rfl (hb hby at_13)) ?_
  show own_WP p e below _ T (mkF m 14 #[.val (.int x0), .val (.int x1), .val (.int t0), .unset, .unset] [(.int (1 : Int32)), (.int x1)])
  refine own_go (fun _ => XT.iushr X.here hx rfl (hb hby at_14) rfl) ?_
  show own_WP p e below _ T (mkF m 15 #[.val (.int x0), .val (.int x1), .val (.int t0), .unset, .unset] [(.int (XT.ushr x1 (1 : Int32)))])
  refine own_go (fun _ => XS.iconst X.here hx rfl (hb hby at_15)) ?_
  show own_WP p e below _ T (mkF m 16 #[.val (.int x0), .val (.int x1), .val (.int t0), .unset, .unset] [(.int (3 : Int32)), (.int (XT.ushr x1 (1 : Int32)))])
  refine own_go (fun _ => XS.iand X.here hx rfl (hb hby at_16) rfl) ?_
  show own_WP p e below _ T (mkF m 17 #[.val (.int x0), .val (.int x1), .val (.int t0), .unset, .unset] [(.int ((XT.ushr x1 (1 : Int32)) &&& (3 : Int32)))])
  refine own_go (fun _ => XS.istoreN X.here hx rfl (hb hby at_17) rfl (l' := #[.val (.int x0), .val (.int x1), .val (.int t0), .val (.int ((XT.ushr x1 (1 : Int32)) &&& (3 : Int32))), .unset]) rfl) ?_
  exact b0_18 hw C X e0 x0 x1 t0 ((XT.ushr x1 (1 : Int32)) &&& (3 : Int32)) r hv hP
def f0_0 (x0 : Int32) (x1 : Int32) : Int32 := (if (x1 &&& (1 : Int32)) = (0 : Int32) then (f0_11 x0 x1 (0 : Int32)) else (f0_11 x0 x1 (1 : Int32)))
set_option maxRecDepth 65536 in
set_option maxHeartbeats 40000000 in
theorem b0_0 {p : Program} {l : Launch} {e : Env} {s : State} {m : MethodId} {args : Array Value} {below : List Frame} {meth : Method} {c : Code} {T : State} {locs : List Loc} {Z : State} {a0 : Array Value} {h0 : Heap} {P : Option Value → Heap → List Loc → Prop} (hw : ∀ d ∈ tables_1, d.before a0 Z = true) (C : own_Ctx p s m meth c Z x code maxLocals ret)
    (X : Stand p l e room_1 s m args below meth c T locs 0 0) (e0 : T.heap = h0) (x0 : Int32) (x1 : Int32) (r : Int32) (hv : f0_0 x0 x1 = r) (hP : P (some (.int r)) h0 locs) :
    own_WP p e below (own_Q s P room_1.cells room_1.slots) T (mkF m 0 #[.val (.int x0), .val (.int x1), .unset, .unset, .unset] []) := by
  obtain ⟨hx, hZ, hby, hml, hown, hnm, hret, hlk⟩ := id C
  unfold f0_0 at hv
  show own_WP p e below _ T (mkF m 0 #[.val (.int x0), .val (.int x1), .unset, .unset, .unset] [])
  refine own_go (fun _ => XS.iloadN X.here hx rfl (hb hby at_0) rfl) ?_
  show own_WP p e below _ T (mkF m 1 #[.val (.int x0), .val (.int x1), .unset, .unset, .unset] [(.int x1)])
  refine own_go (fun _ => XS.iconst X.here hx rfl (hb hby at_1)) ?_
  show own_WP p e below _ T (mkF m 2 #[.val (.int x0), .val (.int x1), .unset, .unset, .unset] [(.int (1 : Int32)), (.int x1)])
  refine own_go (fun _ => XS.iand X.here hx rfl (hb hby at_2) rfl) ?_
  show own_WP p e below _ T (mkF m 3 #[.val (.int x0), .val (.int x1), .unset, .unset, .unset] [(.int (x1 &&& (1 : Int32)))])
  by_cases h3 : (x1 &&& (1 : Int32)) = (0 : Int32)
  · replace hv := (if_pos h3).symm.trans hv
    refine own_go (fun _ => XS.ifYes X.here hx rfl (pc0 := 3) (pc' := 10) rfl (hb hby at_3) rfl (XT.i0_eq_t h3) (by decide) (by decide)) ?_
    show own_WP p e below _ T (mkF m 10 #[.val (.int x0), .val (.int x1), .unset, .unset, .unset] [])
    refine own_go (fun _ => XS.iconst X.here hx rfl (hb hby at_10)) ?_
    exact b0_11 hw C X e0 x0 x1 (0 : Int32) r hv hP
  · replace hv := (if_neg h3).symm.trans hv
    refine own_go (fun _ => XS.ifNo X.here hx rfl (hb hby at_3) rfl (XT.i0_eq_f h3)) ?_
    show own_WP p e below _ T (mkF m 6 #[.val (.int x0), .val (.int x1), .unset, .unset, .unset] [])
    refine own_go (fun _ => XS.iconst X.here hx rfl (hb hby at_6)) ?_
    show own_WP p e below _ T (mkF m 7 #[.val (.int x0), .val (.int x1), .unset, .unset, .unset] [(.int (1 : Int32))])
    refine own_go (fun _ => XS.goto X.here hx rfl (pc0 := 7) (pc' := 11) rfl (hb hby at_7) (by decide) (by decide)) ?_
    exact b0_11 hw C X e0 x0 x1 (1 : Int32) r hv hP
theorem ef0 (m : MethodId) (x0 : Int32) (x1 : Int32) : entryFrame m #[(.int x0), (.int x1)] maxLocals = (mkF m 0 #[.val (.int x0), .val (.int x1), .unset, .unset, .unset] []) := by first | (simp [entryFrame, mkF, argsToLocals, Value.category, maxLocals]; done) | rfl
theorem own_same (c b : Int32) : f1_0 c b = f2_0 c b := by
  simp only [f1_0, f1_18, f1_35, f2_0, Int32.lt_iff_toInt_lt, ← Int32.toInt_inj]
  have q9 : (9 : Int32).toInt = 9 := rfl
  have q10 : (10 : Int32).toInt = 10 := rfl
  have q13 : (13 : Int32).toInt = 13 := rfl
  have q32 : (32 : Int32).toInt = 32 := rfl
  have q127 : (127 : Int32).toInt = 127 := rfl
  have q133 : (133 : Int32).toInt = 133 := rfl
  have q159 : (159 : Int32).toInt = 159 := rfl
  have q8232 : (8232 : Int32).toInt = 8232 := rfl
  simp only [q9, q10, q13, q32, q127, q133, q159, q8232]
  generalize c.toInt = n
  by_cases hb : b.toInt = (0 : Int32).toInt
  · simp only [hb, if_true]
    repeat' split
    all_goals first | rfl | (exfalso; omega)
  · simp only [hb, if_false]
    repeat' split
    all_goals first | rfl | (exfalso; omega)
theorem own_59 (b c : Int32) : f0_59 b c = 1 := by
  unfold f0_59
  rw [own_same, if_pos rfl]
theorem plain0 (x0 x1 : Int32) : f0_0 x0 x1 = 1 := by
  simp only [f0_0, f0_11, f0_18, f0_47, own_59]
  repeat' split
  all_goals rfl
theorem pn0 : plainFor x = true := plainFor_of_name (by first | (simp [plainName, overriddenIn, x]; done) | decide +kernel)
theorem rm0 (l : Launch) (Z : State) (a0 : Array Value) (hw : ∀ d ∈ tables_1, d.before a0 Z = true) (ws : List Jvm.Cond) (x0 : Int32) (x1 : Int32) (h0 : Heap) : own_Met l Z x code maxLocals ret ws room_1 #[(.int x0), (.int x1)] h0 (fun v h L => v = some (.int 1) ∧ Fr h0.size L) := by
  refine own_body pn0 ?_
  intro p e s m below meth c s₁ C X e0
  exact own_cast (ef0 m x0 x1) (b0_0 hw C X e0 x0 x1 _ (plain0 x0 x1) ⟨rfl, Fr.nil _⟩)
set_option maxRecDepth 65536 in
set_option maxHeartbeats 40000000 in
theorem comes_1 {Post : Tables → Env → Array Value → State → Outcome → State → Prop} (hpost : ∀ tb e args s v u, (limb_1_1.after args s (.returned v) u = true ∧ limb_1_2.after args s (.returned v) u = true ∧ True) → FrameEnd s (.returned v) u (Jvm.fieldLocs frame_1_writes args s ++ Jvm.arrayLocs frame_1_arrays args s ++ Jvm.staticLocs frame_1_statics s) 0 0 → Post tb e args s (.returned v) u) :
    ArmFor flags0 classFile x code maxLocals ret World_1 tables_1 room_1 Calls_1 rest_1 Pre_1 Post := by
  intro l hfl _ _ p e ha hc hk s m args below hf hA hF happ hP
  obtain ⟨hcalls, hrest, hpre⟩ := hP
  obtain ⟨-, -, -, hnamed, -, -, -, hat⟩ := (Spec.applies_iff hf).mp happ
  obtain ⟨hg, hn⟩ := and_e (Cond.before_iff.mp (show (Jvm.Cond.and given_1 narrow_1).before args s = true from hpre))
  obtain ⟨hcnt, hg0⟩ := and_e hg
  obtain ⟨ha0, hg1⟩ := and_e hg0
  have ha1 := hg1
  obtain ⟨w0, w1, rfl⟩ : ∃ w0 w1 : Value, args = #[w0, w1] := by
    have hs : args.size = 2 := by simpa [Cond.value, given_1] using hcnt
    obtain ⟨L⟩ := args
    match L, hs with
    | [w0, w1], _ => exact ⟨w0, w1, rfl⟩
  have hw := fun d (hd : d ∈ tables_1) => atoms_spec (ws := Jvm.Cond.code x code maxLocals ret :: tables_1) hat d (List.mem_cons_of_mem _ hd)
  obtain ⟨i0, ei0⟩ := is_v ha0
  obtain rfl : w0 = (.int i0) := Option.some.inj ei0
  obtain ⟨i1, ei1⟩ := is_v ha1
  obtain rfl : w1 = (.int i1) := Option.some.inj ei1
  obtain ⟨n, o, h1, h2, h3, _, L, rfl, ⟨rfl, N⟩, hq⟩ := rm0 l s _ hw tables_1 i0 i1 s.heap p e ha hc hk s m _ below hf ((Spec.applies_iff_loose hf).mp happ).1 ⟨rfl, State.Warmed39.refl s, rfl⟩ trivial
  refine ⟨n, _, h1, h2, h3, hpost _ _ _ _ _ _ ⟨Cond.after_iff.mpr rfl, Cond.after_iff.mpr (eq_i res_at (Term.int_eval (1)) rfl), trivial⟩ ⟨hq.1, hq.2.1, (hq.2.2.sift fun y hy => Or.inr (N y hy)).mono (by decide) (by decide)⟩⟩
theorem main_1_1 : Claimed_1_1 := comes_1 fun _ _ _ _ _ _ h hF => ⟨h.1, hF⟩
theorem main_1_2 : Claimed_1_2 := comes_1 fun _ _ _ _ _ _ h hF => ⟨h.2.1, hF⟩
end Jvm.Pilot.@@N@@
namespace Jvm.Pilot.@@N@@
open Jvm Jvm.ClassFile Sem Op Lib Jvm.Free Jvm.Stand Jvm.Pilot.@@N@@.Jvm.D
/-! MADE BY PROGRAM (witnessworld.py) out of the Statement's table words and the real class files: 9 classes; the members and pool entries that the words name. The judged class is class 1, her method 1. -/
namespace start1
open Jvm.ClassFile
def u (s : String) : CpInfo := .utf8 (stringToUtf16 s)
/-- a pool by its gaps: so many unusable entries, then the entry; so many at the end -/
def gap : Nat → List CpInfo → List CpInfo
  | 0, r => r
  | n + 1, r => .unusable :: gap n r
def poolList (es : List (Nat × CpInfo)) (last : Nat) : List CpInfo := es.foldr (fun e r => gap e.1 (e.2 :: r)) (gap last [])
def pool (es : List (Nat × CpInfo)) (last : Nat) : Array CpInfo := ⟨poolList es last⟩
def fileOf (pool : Array CpInfo) (this : Nat) (attrs : Array Attribute := #[]) (ms : Array MethodInfo := #[]) (fl : Nat := 33) (sup : Nat := 0) (ifs : Array Nat := #[]) (fds : Array FieldInfo := #[]) : ClassFile where
  minorVersion := 0
  majorVersion := 65
  constantPool := pool
  accessFlags := fl
  thisClass := this
  superClass := sup
  interfaces := ifs
  fields := fds
  methods := ms
  attributes := attrs
def plain (name : String) (sup : Option ClassId) : Class where
  name := name
  kind := .ordinary
  loader := none
  accessFlags := 33
  super := sup
  interfaces := #[]
  cf := none
  fields := #[]
  methods := #[]
  instanceTypes := #[]
  staticTypes := #[]
  resolved := #[]
  callSites := []
  init := .initialized
  statics := none
  mirror := none

def pool0 : Array CpInfo := pool [(5, u "<init>"), (0, u "()V"), (1, .class_ 10), (1, u "java/lang/Object")] 113

def k0m0 : Method := { name := "<init>", desc := "()V", sig := { parameters := [], returnType := none }, accessFlags := 1, code := none }
/-- java/lang/Object -/
def k0 : Class := { plain "java/lang/Object" none with
  accessFlags := 33
  interfaces := #[]
  cf := some (fileOf pool0 8 #[] #[{ accessFlags := 1, nameIndex := 5, descriptorIndex := 6, attributes := #[] }] 33 0 #[] #[])
  fields := #[]
  methods := #[k0m0]
  instanceTypes := #[]
  staticTypes := #[]
  resolved := Array.replicate 124 none
  statics := none }

def pool1 : Array CpInfo := pool [(2, .class_ 4), (1, u "java/lang/Object"), (0, u "<init>"), (0, u "()V"), (0, .integer 2147483647), (0, .integer 1114112), (0, .methodref 10 11), (0, .class_ 12), (0, .nameAndType 13 14), (0, u "com/example/kvasir/kvasir/XmlVersion"), (0, u "isReadOtherwise"), (0, u "(IZ)Z"), (0, .methodref 16 17), (0, .class_ 18), (0, .nameAndType 19 14), (0, u "com/example/kvasir/kvasir/XmlVersionIsReadOtherwisePinLaw"), (0, u "expected"), (2, u "law"), (0, u "(II)Z")] 3

def k1m0 : Method := { name := "<init>", desc := "()V", sig := { parameters := [], returnType := none }, accessFlags := 2, code := none }
def k1c1 : Code := { maxStack := 3, maxLocals := 5, code := code, exceptionTable := #[], attributes := #[] }
def k1m1 : Method := { name := "law", desc := "(II)Z", sig := { parameters := [.int, .int], returnType := some .boolean }, accessFlags := 9, code := some k1c1 }
def k1c2 : Code := { maxStack := 2, maxLocals := 2, code := method_3_code, exceptionTable := #[], attributes := #[] }
def k1m2 : Method := { name := "expected", desc := "(IZ)Z", sig := { parameters := [.int, .boolean], returnType := some .boolean }, accessFlags := 10, code := some k1c2 }
/-- com/example/kvasir/kvasir/XmlVersionIsReadOtherwisePinLaw -/
def k1 : Class := { plain "com/example/kvasir/kvasir/XmlVersionIsReadOtherwisePinLaw" (some 0) with
  accessFlags := 49
  interfaces := #[]
  cf := some (fileOf pool1 16 #[] #[{ accessFlags := 2, nameIndex := 5, descriptorIndex := 6, attributes := #[] }, { accessFlags := 9, nameIndex := 22, descriptorIndex := 23, attributes := #[] }, { accessFlags := 10, nameIndex := 19, descriptorIndex := 14, attributes := #[] }] 49 2 #[] #[])
  fields := #[]
  methods := #[k1m0, k1m1, k1m2]
  instanceTypes := #[]
  staticTypes := #[]
  resolved := Array.replicate 27 none
  statics := none }

def pool2 : Array CpInfo := pool [(2, .class_ 4), (1, u "java/lang/Object"), (0, u "<init>"), (0, u "()V"), (9, .class_ 18), (1, u "com/example/kvasir/kvasir/XmlVersion"), (20, u "(IZ)Z"), (111, u "isReadOtherwise")] 19

def k2m0 : Method := { name := "<init>", desc := "()V", sig := { parameters := [], returnType := none }, accessFlags := 2, code := none }
def k2c1 : Code := { maxStack := 2, maxLocals := 2, code := prog_188_method_8_code, exceptionTable := #[], attributes := #[] }
def k2m1 : Method := { name := "isReadOtherwise", desc := "(IZ)Z", sig := { parameters := [.int, .boolean], returnType := some .boolean }, accessFlags := 8, code := some k2c1 }
/-- com/example/kvasir/kvasir/XmlVersion -/
def k2 : Class := { plain "com/example/kvasir/kvasir/XmlVersion" (some 0) with
  accessFlags := 48
  interfaces := #[]
  cf := some (fileOf pool2 16 #[] #[{ accessFlags := 2, nameIndex := 5, descriptorIndex := 6, attributes := #[] }, { accessFlags := 8, nameIndex := 151, descriptorIndex := 39, attributes := #[] }] 48 2 #[] #[])
  fields := #[]
  methods := #[k2m0, k2m1]
  instanceTypes := #[]
  staticTypes := #[]
  resolved := Array.replicate 171 none
  statics := none }

def pool3 : Array CpInfo := pool [(1, u "java/lang/Cloneable"), (0, .class_ 1), (0, u "java/lang/Object"), (0, .class_ 3)] 3

/-- java/lang/Cloneable -/
def k3 : Class := { plain "java/lang/Cloneable" (some 0) with
  accessFlags := 1537
  interfaces := #[]
  cf := some (fileOf pool3 2 #[] #[] 1537 4 #[] #[])
  fields := #[]
  methods := #[]
  instanceTypes := #[]
  staticTypes := #[]
  resolved := Array.replicate 8 none
  statics := none }

def pool4 : Array CpInfo := pool [(1, u "java/io/Serializable"), (0, .class_ 1), (0, u "java/lang/Object"), (0, .class_ 3)] 3

/-- java/io/Serializable -/
def k4 : Class := { plain "java/io/Serializable" (some 0) with
  accessFlags := 1537
  interfaces := #[]
  cf := some (fileOf pool4 2 #[] #[] 1537 4 #[] #[])
  fields := #[]
  methods := #[]
  instanceTypes := #[]
  staticTypes := #[]
  resolved := Array.replicate 8 none
  statics := none }

/-- the primitive byte -/
def k5 : Class := { plain "byte" none with kind := .primitive 'B', accessFlags := 0x411 }
/-- [B -/
def k6 : Class := { plain "[B" (some 0) with kind := .array 5 .byte, interfaces := #[3, 4], accessFlags := 1041 }

/-- the primitive int -/
def k7 : Class := { plain "int" none with kind := .primitive 'I', accessFlags := 0x411 }
/-- [I -/
def k8 : Class := { plain "[I" (some 0) with kind := .array 7 .int, interfaces := #[3, 4], accessFlags := 1041 }

def heap : Heap := #[]
def classes : Array Class := #[k0, k1, k2, k3, k4, k5, k6, k7, k8]
def interned : List (Array UInt16 × Addr) := []
def slotsUsed : Nat := 0
def theMethod : MethodId := ⟨1, 1⟩
def args0 : Array Value := #[.int 5, .int 5]
def aboutOver (below : List Frame) : State where
  vm := { classes := classes, interned := interned.toArray }
  heap := heap
  slotsUsed := slotsUsed
  threads := #[{ frames := .invoking theMethod args0 :: below }]
def below0 : List Frame := [.native { method := ⟨0, 0⟩, args := #[] }]
def about1 : State := aboutOver below0
def p0 : Program := .bare "" "" ""
def e0 : Env := launch0.env 0 0 0
theorem w_frames : about1.frames = Frame.invoking theMethod args0 :: below0 := rfl
set_option maxRecDepth 65536 in
theorem w_args : argsFit about1.vm theMethod args0 = true := by decide +kernel
set_option maxRecDepth 65536 in
theorem w_heap : heapFits about1 = true := by decide +kernel
set_option maxRecDepth 65536 in
theorem w_runnable : about1.curStatus? = some .runnable := by decide +kernel
set_option maxRecDepth 65536 in
theorem w_alone : about1.alone = true := by decide +kernel
set_option maxRecDepth 65536 in
theorem w_named : about1.methodNamed? x = some theMethod := by decide +kernel
set_option maxRecDepth 65536 in
theorem w_hears : about1.hears theMethod below0 = true := by decide +kernel
set_option maxRecDepth 65536 in
theorem w_ripe : about1.ripe theMethod args0 below0 = true := by decide +kernel
theorem w_running : about1.status = .running := rfl
set_option maxRecDepth 65536 in
theorem w_room : about1.hasRoom e0.platform room_1 = true :=
  launch0.hasRoom_least _ room_1 (by decide +kernel) (by decide +kernel) (by decide +kernel) (by decide +kernel) (by decide +kernel) (by decide +kernel)
theorem allAtoms_all (ts : List Jvm.Cond) (a : Array Jvm.Value) (st : Jvm.State) : (allAtoms ts).before a st = ts.all (fun c => c.before a st) := by
  induction ts with
  | nil => rfl
  | cons c t ih =>
    show (Jvm.Cond.and c (allAtoms t)).before a st = _
    rw [Jvm.Cond.before_and, ih, List.all_cons]
def words1 : List Jvm.Cond := Jvm.Cond.code x code maxLocals ret :: tables_1
/-- a 'code' word, met by the world's own term for the bytes: nothing is compared byte by byte -/
theorem code_word {y : MethodName} {bytes : ByteArray} {mx : Nat} {rt : Option FieldType} {a : Array Value} {s : State} {m : MethodId} {meth : Method} {c : Code} (h1 : s.methodNamed? y = some m) (h2 : s.vm.method? m = some meth) (h3 : meth.code = some c) (h4 : c.code = bytes)
    (h5 : (c.maxLocals == mx && c.exceptionTable.isEmpty && decide (c.maxStack ≤ mostOperands) && decide (meth.sig.returnType = rt) && !meth.locks && decide (parseMethodDescriptor y.desc = some meth.sig)) = true) : (Jvm.Cond.code y bytes mx rt).before a s = true := by
  simp only [Bool.and_eq_true, beq_iff_eq, Bool.not_eq_true', decide_eq_true_eq] at h5
  obtain ⟨⟨⟨⟨⟨g1, g2⟩, g3⟩, g4⟩, g5⟩, g6⟩ := h5
  simp [Cond.before, Cond.holds, Cond.value, h1, h2, h3, h4, g1, g2, g3, g4, g5, g6]
def isCode : Jvm.Cond → Bool
  | .code _ _ _ _ => true
  | _ => false
theorem all_split {L : List Jvm.Cond} {P : Jvm.Cond → Bool} (h1 : L.all (fun c => isCode c || P c) = true) (h2 : ∀ c ∈ L.filter isCode, P c = true) : L.all P = true := by
  refine List.all_eq_true.mpr fun c hc => ?_
  have h := List.all_eq_true.mp h1 c hc
  rcases Bool.eq_false_or_eq_true (isCode c) with hi | hi
  · exact h2 c (List.mem_filter.mpr ⟨hc, hi⟩)
  · simpa [hi] using h
set_option maxRecDepth 65536 in
theorem w_c0 : (Jvm.Cond.code x code maxLocals ret).before args0 about1 = true := code_word (m := ⟨1, 1⟩) (meth := k1m1) (c := k1c1) (by decide +kernel) rfl rfl rfl (by decide +kernel)
set_option maxRecDepth 65536 in
theorem w_c1 : (Jvm.Cond.code ({ cls := "com/example/kvasir/kvasir/XmlVersion", name := "isReadOtherwise", desc := "(IZ)Z" } : Jvm.MethodName) prog_188_method_8_code (2 : Nat) (Option.some Jvm.ClassFile.FieldType.boolean)).before args0 about1 = true := code_word (m := ⟨2, 1⟩) (meth := k2m1) (c := k2c1) (by decide +kernel) rfl rfl rfl (by decide +kernel)
set_option maxRecDepth 65536 in
theorem w_c2 : (Jvm.Cond.code ({ cls := "com/example/kvasir/kvasir/XmlVersionIsReadOtherwisePinLaw", name := "expected", desc := "(IZ)Z" } : Jvm.MethodName) method_3_code (2 : Nat) (Option.some Jvm.ClassFile.FieldType.boolean)).before args0 about1 = true := code_word (m := ⟨1, 2⟩) (meth := k1m2) (c := k1c2) (by decide +kernel) rfl rfl rfl (by decide +kernel)
def codes1 : List Jvm.Cond := [Jvm.Cond.code x code maxLocals ret, Jvm.Cond.code ({ cls := "com/example/kvasir/kvasir/XmlVersion", name := "isReadOtherwise", desc := "(IZ)Z" } : Jvm.MethodName) prog_188_method_8_code (2 : Nat) (Option.some Jvm.ClassFile.FieldType.boolean), Jvm.Cond.code ({ cls := "com/example/kvasir/kvasir/XmlVersionIsReadOtherwisePinLaw", name := "expected", desc := "(IZ)Z" } : Jvm.MethodName) method_3_code (2 : Nat) (Option.some Jvm.ClassFile.FieldType.boolean)]
set_option maxRecDepth 65536 in
theorem codes_eq : words1.filter isCode = codes1 := rfl
theorem w_codes : ∀ c ∈ words1.filter isCode, c.before args0 about1 = true := by
  rw [codes_eq]
  intro c hc
  simp only [codes1, List.mem_cons, List.not_mem_nil, or_false] at hc
  rcases hc with rfl | rfl | rfl
  · exact w_c0
  · exact w_c1
  · exact w_c2
set_option maxRecDepth 65536 in
theorem w_t1 : words1.all (fun c => isCode c || c.before args0 about1) = true := by decide +kernel
theorem w_tables : (allAtoms (Jvm.Cond.code x code maxLocals ret :: tables_1)).before args0 about1 = true := by
  rw [allAtoms_all]
  show words1.all (fun c => c.before args0 about1) = true
  refine all_split ?_ w_codes
  rw [w_t1]
set_option maxRecDepth 65536 in
theorem w_case : (Jvm.Cond.and given_1 narrow_1).before args0 about1 = true := by decide +kernel
theorem w_applies : (headSpec (Jvm.Cond.code x code maxLocals ret :: tables_1) room_1).applies x e0.platform about1 = true :=
  (Spec.applies_iff w_frames).mpr ⟨w_running, w_runnable, w_alone, w_named, w_hears, w_ripe, w_room, w_tables⟩
theorem atStart : AtStart classFile x code maxLocals ret World_1 tables_1 room_1 Calls_1 rest_1 Pre_1 launch0 p0 e0 about1 theMethod args0 below0 :=
  ⟨lists_1, trivial, launch0.admits_env _ _ _, launch0.least_env, fairChoices_fair.cas, fairChoices_fair.clock, w_frames, w_args, w_heap, w_applies, trivial, trivial, w_case⟩
end start1
theorem witness_1 : WitnessClaimed_1 := ⟨start1.p0, start1.e0, start1.about1, start1.theMethod, start1.args0, start1.below0, start1.atStart⟩
end Jvm.Pilot.@@N@@
