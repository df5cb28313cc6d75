import JvmDerived
import JvmDerived.Pilot.@@N@@Statement
import JvmDerived.Pilot.@@N@@Code
set_option linter.unusedVariables false
set_option linter.unusedSimpArgs false
namespace Jvm.RoadKit
open Sem ClassFile Op Lib Jvm.Stand Jvm.Free Jvm.LawKit
section New
variable {p : Program} {l : Launch} {e : Env} {R : Room} {s : State} {m : MethodId} {args : Array Value} {below : List Frame} {meth : Method} {c : Code} {T : State} {locs : List Loc} {cells slots : Nat}
theorem retI (X : Stand p l e R s m args below meth c T locs cells slots) (hx : p.tables.exec = Jvm.exec) {pc : Nat} {Ls : Array Slot} {z : Int32} {rest : List Value} (hret : meth.sig.returnType = some .int) (hd : decode c.code pc = .ok (.ireturn, 1)) {fs : List Frame}
    (hl : ∀ (f : JFrame) (acts : List Action), f.method = m → f.locked = none → f.entered = [] → (doReturn e (T.setTop f) acts (some (.int z))).1 = T.setFrames fs) : Steps p.tables e below (T.setTop (mkF m pc Ls (.int z :: rest))) (T.setFrames fs) := by
  have hm' : T.vm.method? m = some meth := X.method'
  have hn : narrow .int (.int z) = .int z := rfl
  show Steps p.tables e below (T.setTop { method := m, pc := pc, locals := Ls, stack := _ :: rest, locked := none }) _
  jvm_step X.here [X.here.top, hx, hd, hm', hret, hn]
  first | (intro acts; rw [hl _ acts rfl rfl rfl]) | rw [hl _ _ rfl rfl rfl]
  exact Steps.refl _
end New
end Jvm.RoadKit
namespace Jvm.Pilot.@@N@@
open Jvm Jvm.ClassFile Sem Op Lib Jvm.Free Jvm.Stand Jvm.LawKit Jvm.RoadKit Bundle Jvm.Pilot.@@N@@.Jvm.D
/-- what is still to come: from the frame g at T the run comes to an end that Q takes -/
def own_WP (p : Program) (e : Env) (below : List Frame) (Q : Outcome → State → Prop) (T : State) (g : JFrame) : Prop :=
  ∃ s₂ o, Steps p.tables e below (T.setTop g) s₂ ∧ s₂.status = .running ∧ Ended s₂ below o ∧ Q o s₂
def own_Q (s : State) (P : Option Value → Heap → List Loc → Prop) (C S : Nat) (o : Outcome) (U : State) : Prop :=
  ∃ v L, o = .returned v ∧ P v U.heap L ∧ FrameEnd s o U L C S
def own_Ctx (p : Program) (s : State) (m : MethodId) (meth : Method) (c : Code) (Z : State) (y : MethodName) (bytes : ByteArray) (maxL : Nat) (rt : Option FieldType) : Prop :=
  p.tables.exec = Jvm.exec ∧ Z.Warmed39 s.vm ∧ c.code = bytes ∧ c.maxLocals = maxL ∧ s.vm.findClass y.cls = some m.cls ∧ meth.name = y.name ∧ meth.sig.returnType = rt ∧ meth.locks = false
def own_Met (l : Launch) (Z : State) (y : MethodName) (bytes : ByteArray) (maxL : Nat) (rt : Option FieldType) (ws : List Jvm.Cond) (rm : Room) (as' : Array Value) (h : Heap) (P : Option Value → Heap → List Loc → Prop) : Prop :=
  MetFree l y (head1 (Jvm.Cond.code y bytes maxL rt :: ws) rm) (fun a U => a = as' ∧ Z.Warmed39 U.vm ∧ U.heap = h) (fun _ _ _ _ _ => True) (fun _ U o U' => ∃ v L, o = .returned v ∧ P v U'.heap L ∧ FrameEnd U o U' L rm.cells rm.slots)
section Own
variable {p : Program} {l : Launch} {e : Env} {R : Room} {s : State} {m : MethodId} {args : Array Value} {below : List Frame} {meth : Method} {c : Code} {T T' : State} {locs : List Loc} {cells slots : Nat} {Z : State} {a0 : Array Value} {y : MethodName} {bytes : ByteArray} {maxL : Nat} {rt : Option FieldType} {P : Option Value → Heap → List Loc → Prop} {Q : Outcome → State → Prop}
theorem own_go {g g' : JFrame} (st : ∀ t, Steps p.tables e below (T'.setTop g') t → Steps p.tables e below (T.setTop g) t) (h : own_WP p e below Q T' g') : own_WP p e below Q T g := by
  obtain ⟨s₂, o, h1, h2⟩ := h
  exact ⟨s₂, o, st _ h1, h2⟩
theorem own_body {ws : List Jvm.Cond} {rm : Room} {as' : Array Value} {h : Heap} (hp : plainFor y = true)
    (body : ∀ p e s m below meth c s₁, own_Ctx p s m meth c Z y bytes maxL rt → Stand p l e rm s m as' below meth c s₁ [] 0 0 → s₁.heap = h → own_WP p e below (own_Q s P rm.cells rm.slots) s₁ (entryFrame m as' maxL)) :
    own_Met l Z y bytes maxL rt ws rm as' h P := by
  refine MetFree.of_bodySF hp hisR ?_
  intro p e s m args below meth c s₁ Bd hml0 hP hK
  obtain ⟨rfl, hZ, hh⟩ := hP
  exact body p e s m below meth c s₁ ⟨Bd.exec, hZ, Bd.bytes, hml0, findClass_of_methodNamed Bd.named, (name_of_methodNamed Bd.named Bd.method).1, Bd.returns, Bd.notSynchronized⟩ (Stand.of_body Bd) (by rw [← hh, Bd.state]; rfl)
theorem own_cast {g g' : JFrame} (q : g = g') (k : own_WP p e below Q T g') : own_WP p e below Q T g := q ▸ k
theorem own_retI (X : Stand p l e R s m args below meth c T locs cells slots) (C : own_Ctx p s m meth c Z y bytes maxL (some .int)) {pc : Nat} {Ls : Array Slot} {z : Int32} {rest : List Value} {CC SS : Nat}
    (hd : decode c.code pc = .ok (.ireturn, 1)) (hP : P (some (.int z)) T.heap locs) (hc : cells ≤ CC) (hs : slots ≤ SS) : own_WP p e below (own_Q s P CC SS) T (mkF m pc Ls (.int z :: rest)) := by
  obtain ⟨hx, -, -, -, -, -, hr, hlk⟩ := C
  obtain ⟨fs, hrr, hrun, hended, hW, hsame⟩ := X.leave (v := some (.int z)) (fun h => by rw [hr] at h; cases h) hlk
  exact ⟨_, _, retI X hx hr hd hrr, hrun, hended, _, _, rfl, hP, ⟨_, rfl⟩, hW, hsame.mono hc hs⟩
theorem own_retN {t : FieldType} (X : Stand p l e R s m args below meth c T locs cells slots) (C : own_Ctx p s m meth c Z y bytes maxL (some t)) (ht : t = .boolean ∨ t = .byte ∨ t = .char ∨ t = .short) {pc : Nat} {Ls : Array Slot} {z : Int32} {rest : List Value} {CC SS : Nat}
    (hd : decode c.code pc = .ok (.ireturn, 1)) (hP : P (some (.int (nar t z))) T.heap locs) (hc : cells ≤ CC) (hs : slots ≤ SS) : own_WP p e below (own_Q s P CC SS) T (mkF m pc Ls (.int z :: rest)) := by
  obtain ⟨hx, -, -, -, -, -, hr, hlk⟩ := C
  obtain ⟨fs, hrr, hrun, hended, hW, hsame⟩ := X.leave (v := some (.int (nar t z))) (fun h => by rw [hr] at h; cases h) hlk
  exact ⟨_, _, retN X hx hr ht hd hrr, hrun, hended, _, _, rfl, hP, ⟨_, rfl⟩, hW, hsame.mono hc hs⟩
theorem own_retL (X : Stand p l e R s m args below meth c T locs cells slots) (C : own_Ctx p s m meth c Z y bytes maxL (some .long)) {pc : Nat} {Ls : Array Slot} {z : Int64} {CC SS : Nat}
    (hd : decode c.code pc = .ok (.lreturn, 1)) (hP : P (some (.long z)) T.heap locs) (hc : cells ≤ CC) (hs : slots ≤ SS) : own_WP p e below (own_Q s P CC SS) T (mkF m pc Ls [.long z]) := by
  obtain ⟨hx, -, -, -, -, -, hr, hlk⟩ := C
  obtain ⟨fs, hrr, hrun, hended, hW, hsame⟩ := X.leave (v := some (.long z)) (fun h => by rw [hr] at h; cases h) hlk
  exact ⟨_, _, X.lreturnOut hx hr hd hrr, hrun, hended, _, _, rfl, hP, ⟨_, rfl⟩, hW, hsame.mono hc hs⟩
theorem own_retV (X : Stand p l e R s m args below meth c T locs cells slots) (C : own_Ctx p s m meth c Z y bytes maxL none) {pc : Nat} {Ls : Array Slot} {CC SS : Nat}
    (hd : decode c.code pc = .ok (.return_, 1)) (hP : P none T.heap locs) (hc : cells ≤ CC) (hs : slots ≤ SS) : own_WP p e below (own_Q s P CC SS) T (mkF m pc Ls []) := by
  obtain ⟨hx, -, -, -, -, -, hr, hlk⟩ := C
  obtain ⟨fs, hrr, hrun, hended, hW, hsame⟩ := X.leave (v := none) (fun _ => rfl) hlk
  exact ⟨_, _, X.returnOut hx hr hd hrr, hrun, hended, _, _, rfl, hP, ⟨_, rfl⟩, hW, hsame.mono hc hs⟩
theorem own_retA {t : FieldType} (X : Stand p l e R s m args below meth c T locs cells slots) (C : own_Ctx p s m meth c Z y bytes maxL (some t)) (ht : t.isReference = true) {pc : Nat} {Ls : Array Slot} {a : Addr} {CC SS : Nat}
    (hd : decode c.code pc = .ok (.areturn, 1)) (hP : P (some (.ref a)) T.heap locs) (hc : cells ≤ CC) (hs : slots ≤ SS) : own_WP p e below (own_Q s P CC SS) T (mkF m pc Ls [.ref a]) := by
  obtain ⟨hx, -, -, -, -, -, hr, hlk⟩ := C
  obtain ⟨fs, hrr, hrun, hended, hW, hsame⟩ := X.leave (v := some (.ref a)) (fun h => by rw [hr] at h; cases h) hlk
  exact ⟨_, _, X.areturnOut hx rfl hr ht hd hrr, hrun, hended, _, _, rfl, hP, ⟨_, rfl⟩, hW, hsame.mono hc hs⟩
/-- a static call by the callee's contract -/
theorem own_callS (X : Stand p l e R s m args below meth c T locs cells slots) (C : own_Ctx p s m meth c Z y bytes maxL rt) {idx : Nat} {y' : MethodName} {bytes' : ByteArray} {maxL' : Nat} {rt' : Option FieldType} {rm' : Room} {argsL rest : List Value} {h : Heap} {P' : Option Value → Heap → List Loc → Prop}
    (hM : own_Met l Z y' bytes' maxL' rt' [] rm' argsL.toArray h P') (w1 : (Cond.methodLink y.cls idx y').before a0 Z = true) (w2 : (Cond.static y').before a0 Z = true) (w3 : (Cond.initialized y'.cls).before a0 Z = true) (w4 : (Cond.code y' bytes' maxL' rt').before a0 Z = true)
    (hy : y'.cls ≠ "java/lang/invoke/MethodHandle" ∧ y'.cls ≠ "java/lang/invoke/VarHandle") (eT : T.heap = h) {W : Nat} {pc : Nat} {Ls : Array Slot} (hsz : Ls.size = maxL) (hlen : ∀ sig, parseMethodDescriptor y'.desc = some sig → argsL.length = sig.parameters.length)
    {stk : List Value} (hst : stk = argsL.reverse ++ rest) (hW : (rest.map fun v => v.category).sum ≤ W) (hd : decode c.code pc = .ok (.invokestatic idx, 3))
    (hf : rm'.frames + 1 ≤ R.frames) (hl : W + (maxL' + 11) + rm'.locals ≤ R.locals) (hc : cells + rm'.cells ≤ R.cells) (hs : slots + rm'.slots ≤ R.slots) :
    ∃ T' v L, Stand p l e R s m args below meth c T' (locs ++ L) (cells + rm'.cells) (slots + rm'.slots) ∧ P' v T'.heap L ∧ ∀ t, Steps p.tables e below (T'.setTop (mkF m (pc + 3) Ls (v.toList ++ rest))) t → Steps p.tables e below (T.setTop (mkF m pc Ls stk)) t := by
  obtain ⟨hx, hZ, hby, hml, hown, hnm, hr, hlk⟩ := C
  obtain ⟨v, _, ⟨T', L', k', n'⟩, -, X', ⟨L, hQ, hl', hk', hn'⟩, st⟩ := Jvm.LawKit.callS X hx (y := y') hown (mvT hZ w1) (mvT hZ w2) (mvT hZ w3) (mvT hZ w4) hy (backOf (W := W) hM hZ w4 w3 hf hl) (g := mkF m pc Ls stk) rfl (by rw [hml]; exact hsz) (argsL := argsL) (rest := rest) hlen hst (by show 2 * 0 + _ ≤ _; omega) hd (fun _ _ => ⟨rfl, eT, hc, hs⟩)
  dsimp only [Pt.U, Pt.locs, Pt.cells, Pt.slots] at X' hl' hk' hn' st hQ
  subst hl' hk' hn'
  exact ⟨T', v, L, X', hQ, st⟩
/-- a constructor by its contract -/
theorem own_callN (X : Stand p l e R s m args below meth c T locs cells slots) (C : own_Ctx p s m meth c Z y bytes maxL rt) {idx : Nat} {y' : MethodName} {bytes' : ByteArray} {maxL' : Nat} {rm' : Room} {a : Addr} {argsL rest : List Value} {h : Heap} {P' : Option Value → Heap → List Loc → Prop}
    (hM : own_Met l Z y' bytes' maxL' none [] rm' (.ref a :: argsL).toArray h P') (hyn : y'.name = "<init>") (w1 : (Cond.methodLink y.cls idx y').before a0 Z = true) (w2 : (Cond.instanceMethod y').before a0 Z = true) (w3 : (Cond.initialized y'.cls).before a0 Z = true) (w4 : (Cond.code y' bytes' maxL' none).before a0 Z = true)
    (hy : y'.cls ≠ "java/lang/invoke/MethodHandle" ∧ y'.cls ≠ "java/lang/invoke/VarHandle") (eT : T.heap = h) {W : Nat} {pc : Nat} {Ls : Array Slot} (hsz : Ls.size = maxL) (hlen : ∀ sig, parseMethodDescriptor y'.desc = some sig → argsL.length = sig.parameters.length)
    {stk : List Value} (hst : stk = argsL.reverse ++ .ref a :: rest) (hW : (rest.map fun v => v.category).sum ≤ W) (hd : decode c.code pc = .ok (.invokespecial idx, 3))
    (hf : rm'.frames + 1 ≤ R.frames) (hl : W + (maxL' + 11) + rm'.locals ≤ R.locals) (hc : cells + rm'.cells ≤ R.cells) (hs : slots + rm'.slots ≤ R.slots) :
    ∃ T' v L, Stand p l e R s m args below meth c T' (locs ++ L) (cells + rm'.cells) (slots + rm'.slots) ∧ P' v T'.heap L ∧ ∀ t, Steps p.tables e below (T'.setTop (mkF m (pc + 3) Ls (v.toList ++ rest))) t → Steps p.tables e below (T.setTop (mkF m pc Ls stk)) t := by
  obtain ⟨hx, hZ, hby, hml, hown, hnm, hr, hlk⟩ := C
  obtain ⟨v, _, ⟨T', L', k', n'⟩, -, X', ⟨L, hQ, hl', hk', hn'⟩, st⟩ := X.specialBack hx (y := y') hyn hown (mvT hZ w1) (mvT hZ w2) (mvT hZ w4) hy (backOf (W := W) hM hZ w4 w3 hf hl) (g := mkF m pc Ls stk) rfl (by rw [hml]; exact hsz) (Steps.refl _) (a := a) (argsL := argsL) (rest := rest) hlen hst (by show 2 * 0 + _ ≤ _; omega) hd (fun _ _ => ⟨rfl, eT, hc, hs⟩)
  dsimp only [Pt.U, Pt.locs, Pt.cells, Pt.slots] at X' hl' hk' hn' st hQ
  subst hl' hk' hn'
  exact ⟨T', v, L, X', hQ, fun t k => st.trans k⟩
/-- an instance method by the contract of the body that is selected (the class that declares it is the receiver's own) -/
theorem own_callV (X : Stand p l e R s m args below meth c T locs cells slots) (C : own_Ctx p s m meth c Z y bytes maxL rt) {idx : Nat} {y' : MethodName} {bytes' : ByteArray} {maxL' : Nat} {rt' : Option FieldType} {rm' : Room} {a : Addr} {argsL rest : List Value} {h : Heap} {P' : Option Value → Heap → List Loc → Prop}
    (hM : own_Met l Z y' bytes' maxL' rt' [] rm' (.ref a :: argsL).toArray h P') (w1 : (Cond.methodLink y.cls idx y').before a0 Z = true) (wd : (Cond.declares y').before a0 Z = true) (wsel : (Cond.selects y'.cls y' y').before a0 Z = true) (w2 : (Cond.instanceMethod y').before a0 Z = true) (w3 : (Cond.initialized y'.cls).before a0 Z = true) (w4 : (Cond.code y' bytes' maxL' rt').before a0 Z = true)
    (hy : y'.cls ≠ "java/lang/invoke/MethodHandle" ∧ y'.cls ≠ "java/lang/invoke/VarHandle") (eT : T.heap = h) (E : Exa Z h a y'.cls) {W : Nat} {pc : Nat} {Ls : Array Slot} (hsz : Ls.size = maxL) (hlen : ∀ sig, parseMethodDescriptor y'.desc = some sig → argsL.length = sig.parameters.length)
    {stk : List Value} (hst : stk = argsL.reverse ++ .ref a :: rest) (hW : (rest.map fun v => v.category).sum ≤ W) (hd : decode c.code pc = .ok (.invokevirtual idx, 3))
    (hf : rm'.frames + 1 ≤ R.frames) (hl : W + (maxL' + 11) + rm'.locals ≤ R.locals) (hc : cells + rm'.cells ≤ R.cells) (hs : slots + rm'.slots ≤ R.slots) :
    ∃ T' v L, Stand p l e R s m args below meth c T' (locs ++ L) (cells + rm'.cells) (slots + rm'.slots) ∧ P' v T'.heap L ∧ ∀ t, Steps p.tables e below (T'.setTop (mkF m (pc + 3) Ls (v.toList ++ rest))) t → Steps p.tables e below (T.setTop (mkF m pc Ls stk)) t := by
  obtain ⟨hx, hZ, hby, hml, hown, hnm, hr, hlk⟩ := C
  obtain ⟨cq, kq, qa, qb, qc⟩ := isOf hZ eT E
  obtain ⟨v, _, ⟨T', L', k', n'⟩, -, X', ⟨L, hQ, hl', hk', hn'⟩, st⟩ := X.virtualBack hx (y := y') (z := y') hown (mvT hZ w1) (mvT hZ wd) (notFace_of_selects (args := #[]) (mvT hZ wsel)) (mvT hZ wsel) (mvT hZ w2) hy (backOf (W := W) hM hZ w4 w3 hf hl) qa qc (g := mkF m pc Ls stk) rfl (by rw [hml]; exact hsz) (Steps.refl _) (argsL := argsL) (rest := rest) hlen hst (by show 2 * 0 + _ ≤ _; omega) hd (fun _ _ => ⟨rfl, eT, hc, hs⟩)
  dsimp only [Pt.U, Pt.locs, Pt.cells, Pt.slots] at X' hl' hk' hn' st hQ
  subst hl' hk' hn'
  exact ⟨T', v, L, X', hQ, fun t k => st.trans k⟩
end Own
end Jvm.Pilot.@@N@@
namespace Jvm.Pilot.@@N@@
open Jvm Jvm.ClassFile Sem Op Lib Jvm.Free Jvm.Stand Jvm.LawKit Jvm.RoadKit Bundle Jvm.Pilot.@@N@@.Jvm.D
theorem d1_0 : decode prog_104_method_6_code 0 = .ok (.iload_n 0, 1) := by decide +kernel
theorem d1_1 : decode prog_104_method_6_code 1 = .ok (.bipush 32, 2) := by decide +kernel
theorem d1_3 : decode prog_104_method_6_code 3 = .ok (.if_icmp .eq 35, 3) := by decide +kernel
theorem d1_6 : decode prog_104_method_6_code 6 = .ok (.iload_n 0, 1) := by decide +kernel
theorem d1_7 : decode prog_104_method_6_code 7 = .ok (.bipush 9, 2) := by decide +kernel
theorem d1_9 : decode prog_104_method_6_code 9 = .ok (.if_icmp .eq 29, 3) := by decide +kernel
theorem d1_12 : decode prog_104_method_6_code 12 = .ok (.iload_n 0, 1) := by decide +kernel
theorem d1_13 : decode prog_104_method_6_code 13 = .ok (.bipush 10, 2) := by decide +kernel
theorem d1_15 : decode prog_104_method_6_code 15 = .ok (.if_icmp .eq 23, 3) := by decide +kernel
theorem d1_18 : decode prog_104_method_6_code 18 = .ok (.iload_n 0, 1) := by decide +kernel
theorem d1_19 : decode prog_104_method_6_code 19 = .ok (.bipush 13, 2) := by decide +kernel
theorem d1_21 : decode prog_104_method_6_code 21 = .ok (.if_icmp .eq 17, 3) := by decide +kernel
theorem d1_24 : decode prog_104_method_6_code 24 = .ok (.iload_n 0, 1) := by decide +kernel
theorem d1_25 : decode prog_104_method_6_code 25 = .ok (.sipush 133, 3) := by decide +kernel
theorem d1_28 : decode prog_104_method_6_code 28 = .ok (.if_icmp .eq 10, 3) := by decide +kernel
theorem d1_31 : decode prog_104_method_6_code 31 = .ok (.iload_n 0, 1) := by decide +kernel
theorem d1_32 : decode prog_104_method_6_code 32 = .ok (.sipush 8232, 3) := by decide +kernel
theorem d1_35 : decode prog_104_method_6_code 35 = .ok (.if_icmp .ne 7, 3) := by decide +kernel
theorem d1_38 : decode prog_104_method_6_code 38 = .ok (.iconst 1, 1) := by decide +kernel
theorem d1_39 : decode prog_104_method_6_code 39 = .ok (.goto 4, 3) := by decide +kernel
theorem d1_42 : decode prog_104_method_6_code 42 = .ok (.iconst 0, 1) := by decide +kernel
theorem d1_43 : decode prog_104_method_6_code 43 = .ok (.ireturn, 1) := by decide +kernel
def rmR1 : Room := { frames := 0, cells := 0, slots := 0, locals := 0 }
def f1_0 (x0 : Int32) : Int32 := (if x0 = (32 : Int32) then (1 : Int32) else (if x0 = (9 : Int32) then (1 : Int32) else (if x0 = (10 : Int32) then (1 : Int32) else (if x0 = (13 : Int32) then (1 : Int32) else (if x0 = (133 : Int32) then (1 : Int32) else (if x0 = (8232 : Int32) then (1 : Int32) else (0 : Int32)))))))
set_option maxRecDepth 65536 in
set_option maxHeartbeats 40000000 in
theorem b1_0 {p : Program} {l : Launch} {e : Env} {s : State} {m : MethodId} {args : Array Value} {below : List Frame} {meth : Method} {c : Code} {T : State} {locs : List Loc} {Z : State} {a0 : Array Value} {h0 : Heap} {P : Option Value → Heap → List Loc → Prop} (hw : ∀ d ∈ tables_1, d.before a0 Z = true) (C : own_Ctx p s m meth c Z (⟨"com/example/kvasir/kvasir/NameReader", "isSpace", "(C)Z"⟩ : MethodName) prog_104_method_6_code 1 (some .boolean))
    (X : Stand p l e rmR1 s m args below meth c T locs 0 0) (e0 : T.heap = h0) (x0 : Int32) (r : Int32) (hv : f1_0 x0 = r) (hP : P (some (.int r)) h0 locs) :
    own_WP p e below (own_Q s P rmR1.cells rmR1.slots) T (mkF m 0 #[.val (.int x0)] []) := by
  obtain ⟨hx, hZ, hby, hml, hown, hnm, hret, hlk⟩ := id C
  unfold f1_0 at hv
  show own_WP p e below _ T (mkF m 0 #[.val (.int x0)] [])
  refine own_go (fun _ => XS.iloadN X.here hx rfl (hb hby d1_0) rfl) ?_
  show own_WP p e below _ T (mkF m 1 #[.val (.int x0)] [(.int x0)])
  refine own_go (fun _ => XS.bipush X.here hx rfl (hb hby d1_1)) ?_
  show own_WP p e below _ T (mkF m 3 #[.val (.int x0)] [(.int (32 : Int32)), (.int x0)])
  by_cases h3 : x0 = (32 : Int32)
  · replace hv := (if_pos h3).symm.trans hv
    refine own_go (fun _ => XS.icmpYes X.here hx rfl (pc0 := 3) (pc' := 38) rfl (hb hby d1_3) rfl (XT.ii_eq_t h3) (by decide) (by decide)) ?_
    show own_WP p e below _ T (mkF m 38 #[.val (.int x0)] [])
    refine own_go (fun _ => XS.iconst X.here hx rfl (hb hby d1_38)) ?_
    show own_WP p e below _ T (mkF m 39 #[.val (.int x0)] [(.int (1 : Int32))])
    refine own_go (fun _ => XS.goto X.here hx rfl (pc0 := 39) (pc' := 43) rfl (hb hby d1_39) (by decide) (by decide)) ?_
    show own_WP p e below _ T (mkF m 43 #[.val (.int x0)] [(.int (1 : Int32))])
    subst hv e0; exact own_retN X C (by simp) (hb hby d1_43) hP (by decide) (by decide)
  · replace hv := (if_neg h3).symm.trans hv
    refine own_go (fun _ => XS.icmpNo X.here hx rfl (hb hby d1_3) rfl (XT.ii_eq_f h3)) ?_
    show own_WP p e below _ T (mkF m 6 #[.val (.int x0)] [])
    refine own_go (fun _ => XS.iloadN X.here hx rfl (hb hby d1_6) rfl) ?_
    show own_WP p e below _ T (mkF m 7 #[.val (.int x0)] [(.int x0)])
    refine own_go (fun _ => XS.bipush X.here hx rfl (hb hby d1_7)) ?_
    show own_WP p e below _ T (mkF m 9 #[.val (.int x0)] [(.int (9 : Int32)), (.int x0)])
    by_cases h9 : x0 = (9 : Int32)
    · replace hv := (if_pos h9).symm.trans hv
      refine own_go (fun _ => XS.icmpYes X.here hx rfl (pc0 := 9) (pc' := 38) rfl (hb hby d1_9) rfl (XT.ii_eq_t h9) (by decide) (by decide)) ?_
      show own_WP p e below _ T (mkF m 38 #[.val (.int x0)] [])
      refine own_go (fun _ => XS.iconst X.here hx rfl (hb hby d1_38)) ?_
      show own_WP p e below _ T (mkF m 39 #[.val (.int x0)] [(.int (1 : Int32))])
      refine own_go (fun _ => XS.goto X.here hx rfl (pc0 := 39) (pc' := 43) rfl (hb hby d1_39) (by decide) (by decide)) ?_
      show own_WP p e below _ T (mkF m 43 #[.val (.int x0)] [(.int (1 : Int32))])
      subst hv e0; exact own_retN X C (by simp) (hb hby d1_43) hP (by decide) (by decide)
    · replace hv := (if_neg h9).symm.trans hv
      refine own_go (fun _ => XS.icmpNo X.here hx rfl (hb hby d1_9) rfl (XT.ii_eq_f h9)) ?_
      show own_WP p e below _ T (mkF m 12 #[.val (.int x0)] [])
      refine own_go (fun _ => XS.iloadN X.here hx rfl (hb hby d1_12) rfl) ?_
      show own_WP p e below _ T (mkF m 13 #[.val (.int x0)] [(.int x0)])
      refine own_go (fun _ => XS.bipush X.here hx rfl (hb hby d1_13)) ?_
      show own_WP p e below _ T (mkF m 15 #[.val (.int x0)] [(.int (10 : Int32)), (.int x0)])
      by_cases h15 : x0 = (10 : Int32)
      · replace hv := (if_pos h15).symm.trans hv
        refine own_go (fun _ => XS.icmpYes X.here hx rfl (pc0 := 15) (pc' := 38) rfl (hb hby d1_15) rfl (XT.ii_eq_t h15) (by decide) (by decide)) ?_
        show own_WP p e below _ T (mkF m 38 #[.val (.int x0)] [])
        refine own_go (fun _ => XS.iconst X.here hx rfl (hb hby d1_38)) ?_
        show own_WP p e below _ T (mkF m 39 #[.val (.int x0)] [(.int (1 : Int32))])
        refine own_go (fun _ => XS.goto X.here hx rfl (pc0 := 39) (pc' := 43) rfl (hb hby d1_39) (by decide) (by decide)) ?_
        show own_WP p e below _ T (mkF m 43 #[.val (.int x0)] [(.int (1 : Int32))])
        subst hv e0; exact own_retN X C (by simp) (hb hby d1_43) hP (by decide) (by decide)
      · replace hv := (if_neg h15).symm.trans hv
        refine own_go (fun _ => XS.icmpNo X.here hx rfl (hb hby d1_15) rfl (XT.ii_eq_f h15)) ?_
        show own_WP p e below _ T (mkF m 18 #[.val (.int x0)] [])
        refine own_go (fun _ => XS.iloadN X.here hx rfl (hb hby d1_18) rfl) ?_
        show own_WP p e below _ T (mkF m 19 #[.val (.int x0)] [(.int x0)])
        refine own_go (fun _ => XS.bipush X.here hx rfl (hb hby d1_19)) ?_
        show own_WP p e below _ T (mkF m 21 #[.val (.int x0)] [(.int (13 : Int32)), (.int x0)])
        by_cases h21 : x0 = (13 : Int32)
        · replace hv := (if_pos h21).symm.trans hv
          refine own_go (fun _ => XS.icmpYes X.here hx rfl (pc0 := 21) (pc' := 38) rfl (hb hby d1_21) rfl (XT.ii_eq_t h21) (by decide) (by decide)) ?_
          show own_WP p e below _ T (mkF m 38 #[.val (.int x0)] [])
          refine own_go (fun _ => XS.iconst X.here hx rfl (hb hby d1_38)) ?_
          show own_WP p e below _ T (mkF m 39 #[.val (.int x0)] [(.int (1 : Int32))])
          refine own_go (fun _ => XS.goto X.here hx rfl (pc0 := 39) (pc' := 43) rfl (hb hby d1_39) (by decide) (by decide)) ?_
          show own_WP p e below _ T (mkF m 43 #[.val (.int x0)] [(.int (1 : Int32))])
          subst hv e0; exact own_retN X C (by simp) (hb hby d1_43) hP (by decide) (by decide)
        · replace hv := (if_neg h21).symm.trans hv
          refine own_go (fun _ => XS.icmpNo X.here hx rfl (hb hby d1_21) rfl (XT.ii_eq_f h21)) ?_
          show own_WP p e below _ T (mkF m 24 #[.val (.int x0)] [])
          refine own_go (fun _ => XS.iloadN X.here hx rfl (hb hby d1_24) rfl) ?_
          show own_WP p e below _ T (mkF m 25 #[.val (.int x0)] [(.int x0)])
          refine own_go (fun _ => XS.sipush X.here hx rfl (hb hby d1_25)) ?_
          show own_WP p e below _ T (mkF m 28 #[.val (.int x0)] [(.int (133 : Int32)), (.int x0)])
          by_cases h28 : x0 = (133 : Int32)
          · replace hv := (if_pos h28).symm.trans hv
            refine own_go (fun _ => XS.icmpYes X.here hx rfl (pc0 := 28) (pc' := 38) rfl (hb hby d1_28) rfl (XT.ii_eq_t h28) (by decide) (by decide)) ?_
            show own_WP p e below _ T (mkF m 38 #[.val (.int x0)] [])
            refine own_go (fun _ => XS.iconst X.here hx rfl (hb hby d1_38)) ?_
            show own_WP p e below _ T (mkF m 39 #[.val (.int x0)] [(.int (1 : Int32))])
            refine own_go (fun _ => XS.goto X.here hx rfl (pc0 := 39) (pc' := 43) rfl (hb hby d1_39) (by decide) (by decide)) ?_
            show own_WP p e below _ T (mkF m 43 #[.val (.int x0)] [(.int (1 : Int32))])
            subst hv e0; exact own_retN X C (by simp) (hb hby d1_43) hP (by decide) (by decide)
          · replace hv := (if_neg h28).symm.trans hv
            refine own_go (fun _ => XS.icmpNo X.here hx rfl (hb hby d1_28) rfl (XT.ii_eq_f h28)) ?_
            show own_WP p e below _ T (mkF m 31 #[.val (.int x0)] [])
            refine own_go (fun _ => XS.iloadN X.here hx rfl (hb hby d1_31) rfl) ?_
            show own_WP p e below _ T (mkF m 32 #[.val (.int x0)] [(.int x0)])
            refine own_go (fun _ => XS.sipush X.here hx rfl (hb hby d1_32)) ?_
            show own_WP p e below _ T (mkF m 35 #[.val (.int x0)] [(.int (8232 : Int32)), (.int x0)])
            by_cases h35 : x0 = (8232 : Int32)
            · replace hv := (if_pos h35).symm.trans hv
              refine own_go (fun _ => XS.icmpNo X.here hx rfl (hb hby d1_35) rfl (XT.ii_ne_f h35)) ?_
              show own_WP p e below _ T (mkF m 38 #[.val (.int x0)] [])
              refine own_go (fun _ => XS.iconst X.here hx rfl (hb hby d1_38)) ?_
              show own_WP p e below _ T (mkF m 39 #[.val (.int x0)] [(.int (1 : Int32))])
              refine own_go (fun _ => XS.goto X.here hx rfl (pc0 := 39) (pc' := 43) rfl (hb hby d1_39) (by decide) (by decide)) ?_
              show own_WP p e below _ T (mkF m 43 #[.val (.int x0)] [(.int (1 : Int32))])
              subst hv e0; exact own_retN X C (by simp) (hb hby d1_43) hP (by decide) (by decide)
            · replace hv := (if_neg h35).symm.trans hv
              refine own_go (fun _ => XS.icmpYes X.here hx rfl (pc0 := 35) (pc' := 42) rfl (hb hby d1_35) rfl (XT.ii_ne_t h35) (by decide) (by decide)) ?_
              show own_WP p e below _ T (mkF m 42 #[.val (.int x0)] [])
              refine own_go (fun _ => XS.iconst X.here hx rfl (hb hby d1_42)) ?_
              show own_WP p e below _ T (mkF m 43 #[.val (.int x0)] [(.int (0 : Int32))])
              subst hv e0; exact own_retN X C (by simp) (hb hby d1_43) hP (by decide) (by decide)
theorem ef1 (m : MethodId) (x0 : Int32) : entryFrame m #[(.int x0)] 1 = (mkF m 0 #[.val (.int x0)] []) := by first | (simp [entryFrame, mkF, argsToLocals, Value.category]; done) | rfl
theorem pd1 : parseMethodDescriptor "(C)Z" = some ⟨[.char], some .boolean⟩ := by decide +kernel
theorem pn1 : plainFor (⟨"com/example/kvasir/kvasir/NameReader", "isSpace", "(C)Z"⟩ : MethodName) = true := plainFor_of_name (by first | (simp [plainName, overriddenIn]; done) | decide +kernel)
theorem rm1 (l : Launch) (Z : State) (a0 : Array Value) (hw : ∀ d ∈ tables_1, d.before a0 Z = true) (x0 : Int32) (h0 : Heap) : own_Met l Z (⟨"com/example/kvasir/kvasir/NameReader", "isSpace", "(C)Z"⟩ : MethodName) prog_104_method_6_code 1 (some .boolean) [] rmR1 #[(.int x0)] h0 (fun v h L => v = some (.int (f1_0 x0)) ∧ L = [] ∧ h = h0) := by
  refine own_body pn1 ?_
  intro p e s m below meth c s₁ C X e0
  exact own_cast (ef1 m x0) (b1_0 hw C X e0 x0 _ rfl ⟨rfl, rfl, rfl⟩)
def f0_50 (x1 : Int32) (x2 : Int32) : Int32 := (if (f1_0 x1) = x2 then (1 : Int32) else (0 : Int32))
set_option maxRecDepth 65536 in
set_option maxHeartbeats 40000000 in
theorem b0_50 {p : Program} {l : Launch} {e : Env} {s : State} {m : MethodId} {args : Array Value} {below : List Frame} {meth : Method} {c : Code} {T : State} {locs : List Loc} {Z : State} {a0 : Array Value} {h0 : Heap} {P : Option Value → Heap → List Loc → Prop} (hw : ∀ d ∈ tables_1, d.before a0 Z = true) (C : own_Ctx p s m meth c Z x code maxLocals ret)
    (X : Stand p l e room_1 s m args below meth c T locs 0 0) (e0 : T.heap = h0) (x0 : Int32) (x1 : Int32) (x2 : Int32) (r : Int32) (hv : f0_50 x1 x2 = r) (hP : P (some (.int r)) h0 locs) :
    own_WP p e below (own_Q s P room_1.cells room_1.slots) T (mkF m 50 #[.val (.int x0), .val (.int x1), .val (.int x2)] []) := by
  obtain ⟨hx, hZ, hby, hml, hown, hnm, hret, hlk⟩ := id C
  unfold f0_50 at hv
  show own_WP p e below _ T (mkF m 50 #[.val (.int x0), .val (.int x1), .val (.int x2)] [])
  refine own_go (fun _ => XS.iloadN X.here hx rfl (hb hby at_50) rfl) ?_
  show own_WP p e below _ T (mkF m 51 #[.val (.int x0), .val (.int x1), .val (.int x2)] [(.int x1)])
  obtain ⟨T, v', L', X, ⟨rfl, rfl, e0⟩, st'⟩ := own_callS X C (rm1 l Z a0 hw x1 h0) (hw _ (List.mem_of_getElem? (i := 1) rfl)) (hw _ (List.mem_of_getElem? (i := 2) rfl)) (hw _ (List.mem_of_getElem? (i := 3) rfl)) (hw _ (List.mem_of_getElem? (i := 4) rfl)) (by decide) e0 (W := 0) (pc := 51) (Ls := #[.val (.int x0), .val (.int x1), .val (.int x2)]) rfl (lenOf pd1 rfl) (rest := []) (stk := [(.int x1)]) rfl (Nat.le_of_ble_eq_true rfl) (hb hby at_51) (by decide) (by decide) (by decide) (by decide)
  rw [List.append_nil] at X
  refine own_go st' ?_
  show own_WP p e below _ T (mkF m 54 #[.val (.int x0), .val (.int x1), .val (.int x2)] [(.int (f1_0 x1))])
  refine own_go (fun _ => XS.iloadN X.here hx rfl (hb hby at_54) rfl) ?_
  show own_WP p e below _ T (mkF m 55 #[.val (.int x0), .val (.int x1), .val (.int x2)] [(.int x2), (.int (f1_0 x1))])
  by_cases h55 : (f1_0 x1) = x2
  · replace hv := (if_pos h55).symm.trans hv
    refine own_go (fun _ => XS.icmpNo X.here hx rfl (hb hby at_55) rfl (XT.ii_ne_f h55)) ?_
    show own_WP p e below _ T (mkF m 58 #[.val (.int x0), .val (.int x1), .val (.int x2)] [])
    refine own_go (fun _ => XS.iconst X.here hx rfl (hb hby at_58)) ?_
    show own_WP p e below _ T (mkF m 59 #[.val (.int x0), .val (.int x1), .val (.int x2)] [(.int (1 : Int32))])
    refine own_go (fun _ => XS.goto X.here hx rfl (pc0 := 59) (pc' := 63) rfl (hb hby at_59) (by decide) (by decide)) ?_
    show own_WP p e below _ T (mkF m 63 #[.val (.int x0), .val (.int x1), .val (.int x2)] [(.int (1 : Int32))])
    subst hv e0; exact own_retN X C (by simp) (hb hby at_63) hP (by decide) (by decide)
  · replace hv := (if_neg h55).symm.trans hv
    refine own_go (fun _ => XS.icmpYes X.here hx rfl (pc0 := 55) (pc' := 62) rfl (hb hby at_55) rfl (XT.ii_ne_t h55) (by decide) (by decide)) ?_
    show own_WP p e below _ T (mkF m 62 #[.val (.int x0), .val (.int x1), .val (.int x2)] [])
    refine own_go (fun _ => XS.iconst X.here hx rfl (hb hby at_62)) ?_
    show own_WP p e below _ T (mkF m 63 #[.val (.int x0), .val (.int x1), .val (.int x2)] [(.int (0 : Int32))])
    subst hv e0; exact own_retN X C (by simp) (hb hby at_63) hP (by decide) (by decide)
def f0_49 (x1 : Int32) (t0 : Int32) : Int32 := (f0_50 x1 t0)
set_option maxRecDepth 65536 in
set_option maxHeartbeats 40000000 in
theorem b0_49 {p : Program} {l : Launch} {e : Env} {s : State} {m : MethodId} {args : Array Value} {below : List Frame} {meth : Method} {c : Code} {T : State} {locs : List Loc} {Z : State} {a0 : Array Value} {h0 : Heap} {P : Option Value → Heap → List Loc → Prop} (hw : ∀ d ∈ tables_1, d.before a0 Z = true) (C : own_Ctx p s m meth c Z x code maxLocals ret)
    (X : Stand p l e room_1 s m args below meth c T locs 0 0) (e0 : T.heap = h0) (x0 : Int32) (x1 : Int32) (t0 : Int32) (r : Int32) (hv : f0_49 x1 t0 = r) (hP : P (some (.int r)) h0 locs) :
    own_WP p e below (own_Q s P room_1.cells room_1.slots) T (mkF m 49 #[.val (.int x0), .val (.int x1), .unset] [(.int t0)]) := by
  obtain ⟨hx, hZ, hby, hml, hown, hnm, hret, hlk⟩ := id C
  unfold f0_49 at hv
  show own_WP p e below _ T (mkF m 49 #[.val (.int x0), .val (.int x1), .unset] [(.int t0)])
  refine own_go (fun _ => XS.istoreN X.here hx rfl (hb hby at_49) rfl (l' := #[.val (.int x0), .val (.int x1), .val (.int t0)]) rfl) ?_
  exact b0_50 hw C X e0 x0 x1 t0 r hv hP
def f0_44 (x1 : Int32) : Int32 := (f0_49 x1 (1 : Int32))
set_option maxRecDepth 65536 in
set_option maxHeartbeats 40000000 in
theorem b0_44 {p : Program} {l : Launch} {e : Env} {s : State} {m : MethodId} {args : Array Value} {below : List Frame} {meth : Method} {c : Code} {T : State} {locs : List Loc} {Z : State} {a0 : Array Value} {h0 : Heap} {P : Option Value → Heap → List Loc → Prop} (hw : ∀ d ∈ tables_1, d.before a0 Z = true) (C : own_Ctx p s m meth c Z x code maxLocals ret)
    (X : Stand p l e room_1 s m args below meth c T locs 0 0) (e0 : T.heap = h0) (x0 : Int32) (x1 : Int32) (r : Int32) (hv : f0_44 x1 = r) (hP : P (some (.int r)) h0 locs) :
    own_WP p e below (own_Q s P room_1.cells room_1.slots) T (mkF m 44 #[.val (.int x0), .val (.int x1), .unset] []) := by
  obtain ⟨hx, hZ, hby, hml, hown, hnm, hret, hlk⟩ := id C
  unfold f0_44 at hv
  show own_WP p e below _ T (mkF m 44 #[.val (.int x0), .val (.int x1), .unset] [])
  refine own_go (fun _ => XS.iconst X.here hx rfl (hb hby at_44)) ?_
  show own_WP p e below _ T (mkF m 45 #[.val (.int x0), .val (.int x1), .unset] [(.int (1 : Int32))])
  refine own_go (fun _ => XS.goto X.here hx rfl (pc0 := 45) (pc' := 49) rfl (hb hby at_45) (by decide) (by decide)) ?_
  exact b0_49 hw C X e0 x0 x1 (1 : Int32) r hv hP
def f0_26 (x1 : Int32) (t0 : Int32) : Int32 := (f0_50 x1 t0)
set_option maxRecDepth 65536 in
set_option maxHeartbeats 40000000 in
theorem b0_26 {p : Program} {l : Launch} {e : Env} {s : State} {m : MethodId} {args : Array Value} {below : List Frame} {meth : Method} {c : Code} {T : State} {locs : List Loc} {Z : State} {a0 : Array Value} {h0 : Heap} {P : Option Value → Heap → List Loc → Prop} (hw : ∀ d ∈ tables_1, d.before a0 Z = true) (C : own_Ctx p s m meth c Z x code maxLocals ret)
    (X : Stand p l e room_1 s m args below meth c T locs 0 0) (e0 : T.heap = h0) (x0 : Int32) (x1 : Int32) (t0 : Int32) (r : Int32) (hv : f0_26 x1 t0 = r) (hP : P (some (.int r)) h0 locs) :
    own_WP p e below (own_Q s P room_1.cells room_1.slots) T (mkF m 26 #[.val (.int x0), .val (.int x1), .unset] [(.int t0)]) := by
  obtain ⟨hx, hZ, hby, hml, hown, hnm, hret, hlk⟩ := id C
  unfold f0_26 at hv
  show own_WP p e below _ T (mkF m 26 #[.val (.int x0), .val (.int x1), .unset] [(.int t0)])
  refine own_go (fun _ => XS.istoreN X.here hx rfl (hb hby at_26) rfl (l' := #[.val (.int x0), .val (.int x1), .val (.int t0)]) rfl) ?_
  show own_WP p e below _ T (mkF m 27 #[.val (.int x0), .val (.int x1), .val (.int t0)] [])
  refine own_go (fun _ => XS.goto X.here hx rfl (pc0 := 27) (pc' := 50) rfl (hb hby at_27) (by decide) (by decide)) ?_
  exact b0_50 hw C X e0 x0 x1 t0 r hv hP
def f0_3 (x1 : Int32) : Int32 := (if (32 : Int32) < x1 then (if x1 = (133 : Int32) then (f0_44 x1) else (if x1 = (8232 : Int32) then (f0_44 x1) else (f0_49 x1 (0 : Int32)))) else (if ((XT.ushrL (4294977024 : Int64) x1) &&& (1 : Int64)) = (0 : Int64) then (f0_26 x1 (0 : Int32)) else (f0_26 x1 (1 : Int32))))
set_option maxRecDepth 65536 in
set_option maxHeartbeats 40000000 in
theorem b0_3 {p : Program} {l : Launch} {e : Env} {s : State} {m : MethodId} {args : Array Value} {below : List Frame} {meth : Method} {c : Code} {T : State} {locs : List Loc} {Z : State} {a0 : Array Value} {h0 : Heap} {P : Option Value → Heap → List Loc → Prop} (hw : ∀ d ∈ tables_1, d.before a0 Z = true) (C : own_Ctx p s m meth c Z x code maxLocals ret)
    (X : Stand p l e room_1 s m args below meth c T locs 0 0) (e0 : T.heap = h0) (x0 : Int32) (x1 : Int32) (r : Int32) (hv : f0_3 x1 = r) (hP : P (some (.int r)) h0 locs) :
    own_WP p e below (own_Q s P room_1.cells room_1.slots) T (mkF m 3 #[.val (.int x0), .val (.int x1), .unset] []) := by
  obtain ⟨hx, hZ, hby, hml, hown, hnm, hret, hlk⟩ := id C
  unfold f0_3 at hv
  show own_WP p e below _ T (mkF m 3 #[.val (.int x0), .val (.int x1), .unset] [])
  refine own_go (fun _ => XS.iloadN X.here hx rfl (hb hby at_3) rfl) ?_
  show own_WP p e below _ T (mkF m 4 #[.val (.int x0), .val (.int x1), .unset] [(.int x1)])
  refine own_go (fun _ => XS.bipush X.here hx rfl (hb hby at_4)) ?_
  show own_WP p e below _ T (mkF m 6 #[.val (.int x0), .val (.int x1), .unset] [(.int (32 : Int32)), (.int x1)])
  by_cases h6 : (32 : Int32) < x1
  · replace hv := (if_pos h6).symm.trans hv
    refine own_go (fun _ => XS.icmpYes X.here hx rfl (pc0 := 6) (pc' := 30) rfl (hb hby at_6) rfl (XT.ii_gt_t h6) (by decide) (by decide)) ?_
    show own_WP p e below _ T (mkF m 30 #[.val (.int x0), .val (.int x1), .unset] [])
    refine own_go (fun _ => XS.iloadN X.here hx rfl (hb hby at_30) rfl) ?_
    show own_WP p e below _ T (mkF m 31 #[.val (.int x0), .val (.int x1), .unset] [(.int x1)])
    refine own_go (fun _ => XS.sipush X.here hx rfl (hb hby at_31)) ?_
    show own_WP p e below _ T (mkF m 34 #[.val (.int x0), .val (.int x1), .unset] [(.int (133 : Int32)), (.int x1)])
    by_cases h34 : x1 = (133 : Int32)
    · replace hv := (if_pos h34).symm.trans hv
      refine own_go (fun _ => XS.icmpYes X.here hx rfl (pc0 := 34) (pc' := 44) rfl (hb hby at_34) rfl (XT.ii_eq_t h34) (by decide) (by decide)) ?_
      exact b0_44 hw C X e0 x0 x1 r hv hP
    · replace hv := (if_neg h34).symm.trans hv
      refine own_go (fun _ => XS.icmpNo X.here hx rfl (hb hby at_34) rfl (XT.ii_eq_f h34)) ?_
      show own_WP p e below _ T (mkF m 37 #[.val (.int x0), .val (.int x1), .unset] [])
      refine own_go (fun _ => XS.iloadN X.here hx rfl (hb hby at_37) rfl) ?_
      show own_WP p e below _ T (mkF m 38 #[.val (.int x0), .val (.int x1), .unset] [(.int x1)])
      refine own_go (fun _ => XS.sipush X.here hx rfl (hb hby at_38)) ?_
      show own_WP p e below _ T (mkF m 41 #[.val (.int x0), .val (.int x1), .unset] [(.int (8232 : Int32)), (.int x1)])
      by_cases h41 : x1 = (8232 : Int32)
      · replace hv := (if_pos h41).symm.trans hv
        refine own_go (fun _ => XS.icmpNo X.here hx rfl (hb hby at_41) rfl (XT.ii_ne_f h41)) ?_
        exact b0_44 hw C X e0 x0 x1 r hv hP
      · replace hv := (if_neg h41).symm.trans hv
        refine own_go (fun _ => XS.icmpYes X.here hx rfl (pc0 := 41) (pc' := 48) rfl (hb hby at_41) rfl (XT.ii_ne_t h41) (by decide) (by decide)) ?_
        show own_WP p e below _ T (mkF m 48 #[.val (.int x0), .val (.int x1), .unset] [])
        refine own_go (fun _ => XS.iconst X.here hx rfl (hb hby at_48)) ?_
        exact b0_49 hw C X e0 x0 x1 (0 : Int32) r hv hP
  · replace hv := (if_neg h6).symm.trans hv
    refine own_go (fun _ => XS.icmpNo X.here hx rfl (hb hby at_6) rfl (XT.ii_gt_f h6)) ?_
    show own_WP p e below _ T (mkF m 9 #[.val (.int x0), .val (.int x1), .unset] [])
    refine own_go (X.ldc2Long hx hown (mvT hZ (hw _ (List.mem_of_getElem? (i := 0) rfl))) (g := (mkF m 9 #[.val (.int x0), .val (.int x1), .unset] [])) rfl (hb hby at_9)) ?_
    show own_WP p e below _ T (mkF m 12 #[.val (.int x0), .val (.int x1), .unset] [(.long (4294977024 : Int64))])
    refine own_go (fun _ => XS.iloadN X.here hx rfl (hb hby at_12) rfl) ?_
    show own_WP p e below _ T (mkF m 13 #[.val (.int x0), .val (.int x1), .unset] [(.int x1), (.long (4294977024 : Int64))])
    refine own_go (fun _ => XT.lushr X.here hx rfl (hb hby at_13) rfl) ?_
    show own_WP p e below _ T (mkF m 14 #[.val (.int x0), .val (.int x1), .unset] [(.long (XT.ushrL (4294977024 : Int64) x1))])
    refine own_go (fun _ => XS.lconst X.here hx rfl (hb hby at_14)) ?_
    show own_WP p e below _ T (mkF m 15 #[.val (.int x0), .val (.int x1), .unset] [(.long (1 : Int64)), (.long (XT.ushrL (4294977024 : Int64) x1))])
    refine own_go (fun _ => XS.land X.here hx rfl (hb hby at_15) rfl) ?_
    show own_WP p e below _ T (mkF m 16 #[.val (.int x0), .val (.int x1), .unset] [(.long ((XT.ushrL (4294977024 : Int64) x1) &&& (1 : Int64)))])
    refine own_go (fun _ => XS.lconst X.here hx rfl (hb hby at_16)) ?_
    show own_WP p e below _ T (mkF m 17 #[.val (.int x0), .val (.int x1), .unset] [(.long (0 : Int64)), (.long ((XT.ushrL (4294977024 : Int64) x1) &&& (1 : Int64)))])
    refine own_go (fun _ => XT.lcmp X.here hx rfl (hb hby at_17) rfl) ?_
    show own_WP p e below _ T (mkF m 18 #[.val (.int x0), .val (.int x1), .unset] [(.int (XT.cmpL ((XT.ushrL (4294977024 : Int64) x1) &&& (1 : Int64)) (0 : Int64)))])
    by_cases h18 : ((XT.ushrL (4294977024 : Int64) x1) &&& (1 : Int64)) = (0 : Int64)
    · replace hv := (if_pos h18).symm.trans hv
      refine own_go (fun _ => XS.ifYes X.here hx rfl (pc0 := 18) (pc' := 25) rfl (hb hby at_18) rfl (XT.ll_eq_t h18) (by decide) (by decide)) ?_
      show own_WP p e below _ T (mkF m 25 #[.val (.int x0), .val (.int x1), .unset] [])
      refine own_go (fun _ => XS.iconst X.here hx rfl (hb hby at_25)) ?_
      exact b0_26 hw C X e0 x0 x1 (0 : Int32) r hv hP
    · replace hv := (if_neg h18).symm.trans hv
      refine own_go (fun _ => XS.ifNo X.here hx rfl (hb hby at_18) rfl (XT.ll_eq_f h18)) ?_
      show own_WP p e below _ T (mkF m 21 #[.val (.int x0), .val (.int x1), .unset] [])
      refine own_go (fun _ => XS.iconst X.here hx rfl (hb hby at_21)) ?_
      show own_WP p e below _ T (mkF m 22 #[.val (.int x0), .val (.int x1), .unset] [(.int (1 : Int32))])
      refine own_go (fun _ => XS.goto X.here hx rfl (pc0 := 22) (pc' := 26) rfl (hb hby at_22) (by decide) (by decide)) ?_
      exact b0_26 hw C X e0 x0 x1 (1 : Int32) r hv hP
def f0_0 (x0 : Int32) : Int32 := (f0_3 (x0.toUInt32.toUInt16.toUInt32.toInt32))
set_option maxRecDepth 65536 in
set_option maxHeartbeats 40000000 in
theorem b0_0 {p : Program} {l : Launch} {e : Env} {s : State} {m : MethodId} {args : Array Value} {below : List Frame} {meth : Method} {c : Code} {T : State} {locs : List Loc} {Z : State} {a0 : Array Value} {h0 : Heap} {P : Option Value → Heap → List Loc → Prop} (hw : ∀ d ∈ tables_1, d.before a0 Z = true) (C : own_Ctx p s m meth c Z x code maxLocals ret)
    (X : Stand p l e room_1 s m args below meth c T locs 0 0) (e0 : T.heap = h0) (x0 : Int32) (r : Int32) (hv : f0_0 x0 = r) (hP : P (some (.int r)) h0 locs) :
    own_WP p e below (own_Q s P room_1.cells room_1.slots) T (mkF m 0 #[.val (.int x0), .unset, .unset] []) := by
  obtain ⟨hx, hZ, hby, hml, hown, hnm, hret, hlk⟩ := id C
  unfold f0_0 at hv
  show own_WP p e below _ T (mkF m 0 #[.val (.int x0), .unset, .unset] [])
  refine own_go (fun _ => XS.iloadN X.here hx rfl (hb hby at_0) rfl) ?_
  show own_WP p e below _ T (mkF m 1 #[.val (.int x0), .unset, .unset] [(.int x0)])
  refine own_go (fun _ => XS.i2c X.here hx rfl (hb hby at_1) rfl) ?_
  show own_WP p e below _ T (mkF m 2 #[.val (.int x0), .unset, .unset] [(.int (x0.toUInt32.toUInt16.toUInt32.toInt32))])
  refine own_go (fun _ => XS.istoreN X.here hx rfl (hb hby at_2) rfl (l' := #[.val (.int x0), .val (.int (x0.toUInt32.toUInt16.toUInt32.toInt32)), .unset]) rfl) ?_
  exact b0_3 hw C X e0 x0 (x0.toUInt32.toUInt16.toUInt32.toInt32) r hv hP
theorem ef0 (m : MethodId) (x0 : Int32) : entryFrame m #[(.int x0)] maxLocals = (mkF m 0 #[.val (.int x0), .unset, .unset] []) := by first | (simp [entryFrame, mkF, argsToLocals, Value.category, maxLocals]; done) | rfl
theorem own_small : ∀ n : Fin 33, f0_3 (Int32.ofNat n.val) = 1 := by decide +kernel
theorem own_3 (c : Int32) (hc : c.toBitVec.toNat < 65536) : f0_3 c = 1 := by
  by_cases hs : c.toBitVec.toNat < 33
  · have q : c = Int32.ofNat c.toBitVec.toNat := by
      apply Int32.toBitVec_inj.mp
      show _ = BitVec.ofNat 32 _
      rw [BitVec.ofNat_toNat]; simp
    rw [q]
    exact own_small ⟨_, hs⟩
  · have i1 : c.toInt = if 2 * c.toBitVec.toNat < 2 ^ 32 then (c.toBitVec.toNat : Int) else (c.toBitVec.toNat : Int) - (2 ^ 32 : Nat) := BitVec.toInt_eq_toNat_cond _
    have i3 : c.toInt = (c.toBitVec.toNat : Int) := by
      rw [i1, if_pos]; omega
    have h32 : (32 : Int32) < c := by
      rw [Int32.lt_iff_toInt_lt, i3]
      show (32 : Int) < _
      omega
    have n32 : ¬ c = 32 := fun e => by subst e; exact hs (by decide)
    have n9 : ¬ c = 9 := fun e => by subst e; exact hs (by decide)
    have n10 : ¬ c = 10 := fun e => by subst e; exact hs (by decide)
    have n13 : ¬ c = 13 := fun e => by subst e; exact hs (by decide)
    simp only [f0_3, h32, if_true, f0_44, f0_49, f0_50, f1_0, n32, n9, n10, n13, if_false]
    repeat' split
    all_goals first | rfl | simp_all
theorem plain0 (x0 : Int32) : f0_0 x0 = 1 := by
  unfold f0_0
  apply own_3
  show (x0.toUInt32.toUInt16.toUInt32).toBitVec.toNat < 65536
  have q := x0.toUInt32.toUInt16.toNat_lt
  have e : (x0.toUInt32.toUInt16.toUInt32).toBitVec.toNat = x0.toUInt32.toUInt16.toNat := by
    show (x0.toUInt32.toUInt16.toUInt32).toNat = _
    exact UInt16.toNat_toUInt32 _
  rw [e]; omega
theorem pn0 : plainFor x = true := plainFor_of_name (by first | (simp [plainName, overriddenIn, x]; done) | decide +kernel)
theorem rm0 (l : Launch) (Z : State) (a0 : Array Value) (hw : ∀ d ∈ tables_1, d.before a0 Z = true) (ws : List Jvm.Cond) (x0 : Int32) (h0 : Heap) : own_Met l Z x code maxLocals ret ws room_1 #[(.int x0)] h0 (fun v h L => v = some (.int 1) ∧ Fr h0.size L) := by
  refine own_body pn0 ?_
  intro p e s m below meth c s₁ C X e0
  exact own_cast (ef0 m x0) (b0_0 hw C X e0 x0 _ (plain0 x0) ⟨rfl, Fr.nil _⟩)
set_option maxRecDepth 65536 in
set_option maxHeartbeats 40000000 in
theorem comes_1 {Post : Tables → Env → Array Value → State → Outcome → State → Prop} (hpost : ∀ tb e args s v u, (limb_1_1.after args s (.returned v) u = true ∧ limb_1_2.after args s (.returned v) u = true ∧ True) → FrameEnd s (.returned v) u (Jvm.fieldLocs frame_1_writes args s ++ Jvm.arrayLocs frame_1_arrays args s ++ Jvm.staticLocs frame_1_statics s) 0 0 → Post tb e args s (.returned v) u) :
    ArmFor flags0 classFile x code maxLocals ret World_1 tables_1 room_1 Calls_1 rest_1 Pre_1 Post := by
  intro l hfl _ _ p e ha hc hk s m args below hf hA hF happ hP
  obtain ⟨hcalls, hrest, hpre⟩ := hP
  obtain ⟨-, -, -, hnamed, -, -, -, hat⟩ := (Spec.applies_iff hf).mp happ
  obtain ⟨hg, hn⟩ := and_e (Cond.before_iff.mp (show (Jvm.Cond.and given_1 narrow_1).before args s = true from hpre))
  obtain ⟨hcnt, hg0⟩ := and_e hg
  have ha0 := hg0
  obtain ⟨w0, rfl⟩ : ∃ w0 : Value, args = #[w0] := by
    have hs : args.size = 1 := by simpa [Cond.value, given_1] using hcnt
    obtain ⟨L⟩ := args
    match L, hs with
    | [w0], _ => exact ⟨w0, rfl⟩
  have hw := fun d (hd : d ∈ tables_1) => atoms_spec (ws := Jvm.Cond.code x code maxLocals ret :: tables_1) hat d (List.mem_cons_of_mem _ hd)
  obtain ⟨i0, ei0⟩ := is_v ha0
  obtain rfl : w0 = (.int i0) := Option.some.inj ei0
  obtain ⟨n, o, h1, h2, h3, _, L, rfl, ⟨rfl, N⟩, hq⟩ := rm0 l s _ hw tables_1 i0 s.heap p e ha hc hk s m _ below hf ((Spec.applies_iff_loose hf).mp happ).1 ⟨rfl, State.Warmed39.refl s, rfl⟩ trivial
  refine ⟨n, _, h1, h2, h3, hpost _ _ _ _ _ _ ⟨Cond.after_iff.mpr rfl, Cond.after_iff.mpr (eq_i res_at (Term.int_eval (1)) rfl), trivial⟩ ⟨hq.1, hq.2.1, (hq.2.2.sift fun y hy => Or.inr (N y hy)).mono (by decide) (by decide)⟩⟩
theorem main_1_1 : Claimed_1_1 := comes_1 fun _ _ _ _ _ _ h hF => ⟨h.1, hF⟩
theorem main_1_2 : Claimed_1_2 := comes_1 fun _ _ _ _ _ _ h hF => ⟨h.2.1, hF⟩
end Jvm.Pilot.@@N@@
namespace Jvm.Pilot.@@N@@
open Jvm Jvm.ClassFile Sem Op Lib Jvm.Free Jvm.Stand Jvm.Pilot.@@N@@.Jvm.D
/-! MADE BY PROGRAM (witnessworld.py) out of the Statement's table words and the real class files: 9 classes; the members and pool entries that the words name. The judged class is class 1, her method 1. -/
namespace start1
open Jvm.ClassFile
def u (s : String) : CpInfo := .utf8 (stringToUtf16 s)
/-- a pool by its gaps: so many unusable entries, then the entry; so many at the end -/
def gap : Nat → List CpInfo → List CpInfo
  | 0, r => r
  | n + 1, r => .unusable :: gap n r
def poolList (es : List (Nat × CpInfo)) (last : Nat) : List CpInfo := es.foldr (fun e r => gap e.1 (e.2 :: r)) (gap last [])
def pool (es : List (Nat × CpInfo)) (last : Nat) : Array CpInfo := ⟨poolList es last⟩
def fileOf (pool : Array CpInfo) (this : Nat) (attrs : Array Attribute := #[]) (ms : Array MethodInfo := #[]) (fl : Nat := 33) (sup : Nat := 0) (ifs : Array Nat := #[]) (fds : Array FieldInfo := #[]) : ClassFile where
  minorVersion := 0
  majorVersion := 65
  constantPool := pool
  accessFlags := fl
  thisClass := this
  superClass := sup
  interfaces := ifs
  fields := fds
  methods := ms
  attributes := attrs
def plain (name : String) (sup : Option ClassId) : Class where
  name := name
  kind := .ordinary
  loader := none
  accessFlags := 33
  super := sup
  interfaces := #[]
  cf := none
  fields := #[]
  methods := #[]
  instanceTypes := #[]
  staticTypes := #[]
  resolved := #[]
  callSites := []
  init := .initialized
  statics := none
  mirror := none

def pool0 : Array CpInfo := pool [(5, u "<init>"), (0, u "()V"), (1, .class_ 10), (1, u "java/lang/Object")] 113

def k0m0 : Method := { name := "<init>", desc := "()V", sig := { parameters := [], returnType := none }, accessFlags := 1, code := none }
/-- java/lang/Object -/
def k0 : Class := { plain "java/lang/Object" none with
  accessFlags := 33
  interfaces := #[]
  cf := some (fileOf pool0 8 #[] #[{ accessFlags := 1, nameIndex := 5, descriptorIndex := 6, attributes := #[] }] 33 0 #[] #[])
  fields := #[]
  methods := #[k0m0]
  instanceTypes := #[]
  staticTypes := #[]
  resolved := Array.replicate 124 none
  statics := none }

def pool1 : Array CpInfo := pool [(2, .class_ 4), (1, u "java/lang/Object"), (0, u "<init>"), (0, u "()V"), (0, .long 4294977024), (1, .methodref 10 11), (0, .class_ 12), (0, .nameAndType 13 14), (0, u "com/example/kvasir/kvasir/NameReader"), (0, u "isSpace"), (0, u "(C)Z"), (0, .class_ 16), (0, u "com/example/kvasir/kvasir/NameReaderIsSpacePinLaw"), (2, u "law"), (0, u "(I)Z")] 3

def k1m0 : Method := { name := "<init>", desc := "()V", sig := { parameters := [], returnType := none }, accessFlags := 2, code := none }
def k1c1 : Code := { maxStack := 4, maxLocals := 3, code := code, exceptionTable := #[], attributes := #[] }
def k1m1 : Method := { name := "law", desc := "(I)Z", sig := { parameters := [.int], returnType := some .boolean }, accessFlags := 9, code := some k1c1 }
/-- com/example/kvasir/kvasir/NameReaderIsSpacePinLaw -/
def k1 : Class := { plain "com/example/kvasir/kvasir/NameReaderIsSpacePinLaw" (some 0) with
  accessFlags := 49
  interfaces := #[]
  cf := some (fileOf pool1 15 #[] #[{ accessFlags := 2, nameIndex := 5, descriptorIndex := 6, attributes := #[] }, { accessFlags := 9, nameIndex := 19, descriptorIndex := 20, attributes := #[] }] 49 2 #[] #[])
  fields := #[]
  methods := #[k1m0, k1m1]
  instanceTypes := #[]
  staticTypes := #[]
  resolved := Array.replicate 24 none
  statics := none }

def pool2 : Array CpInfo := pool [(2, .class_ 4), (1, u "java/lang/Object"), (6, .class_ 13), (1, u "com/example/kvasir/kvasir/NameReader"), (0, u "attributeNames"), (0, u "Ljava/util/Set;"), (2, u "block"), (0, u "[C"), (5, u "carried"), (0, u "Ljava/lang/StringBuilder;"), (2, u "taken"), (0, u "Ljava/util/function/Consumer;"), (9, u "(C)Z"), (20, u "isSpace"), (28, u "ASCII_NAME_CHARACTERS"), (0, u "[Z"), (4, u "BLOCK"), (0, u "I")] 21

def k2c0 : Code := { maxStack := 2, maxLocals := 1, code := prog_104_method_6_code, exceptionTable := #[], attributes := #[] }
def k2m0 : Method := { name := "isSpace", desc := "(C)Z", sig := { parameters := [.char], returnType := some .boolean }, accessFlags := 8, code := some k2c0 }
/-- com/example/kvasir/kvasir/NameReader -/
def k2 : Class := { plain "com/example/kvasir/kvasir/NameReader" (some 0) with
  accessFlags := 48
  interfaces := #[]
  cf := some (fileOf pool2 11 #[] #[{ accessFlags := 8, nameIndex := 61, descriptorIndex := 40, attributes := #[] }] 48 2 #[] #[{ accessFlags := 26, nameIndex := 96, descriptorIndex := 97, attributes := #[] }, { accessFlags := 26, nameIndex := 90, descriptorIndex := 91, attributes := #[] }, { accessFlags := 18, nameIndex := 29, descriptorIndex := 30, attributes := #[] }, { accessFlags := 18, nameIndex := 14, descriptorIndex := 15, attributes := #[] }, { accessFlags := 18, nameIndex := 18, descriptorIndex := 19, attributes := #[] }, { accessFlags := 18, nameIndex := 25, descriptorIndex := 26, attributes := #[] }])
  fields := #[{ name := "BLOCK", type := .int, accessFlags := 26, slot := 0, constantValue := 0 }, { name := "ASCII_NAME_CHARACTERS", type := (.array .boolean), accessFlags := 26, slot := 1, constantValue := 0 }, { name := "taken", type := (.object "java/util/function/Consumer"), accessFlags := 18, slot := 0, constantValue := 0 }, { name := "attributeNames", type := (.object "java/util/Set"), accessFlags := 18, slot := 1, constantValue := 0 }, { name := "block", type := (.array .char), accessFlags := 18, slot := 2, constantValue := 0 }, { name := "carried", type := (.object "java/lang/StringBuilder"), accessFlags := 18, slot := 3, constantValue := 0 }]
  methods := #[k2m0]
  instanceTypes := #[(.object "java/util/function/Consumer"), (.object "java/util/Set"), (.array .char), (.object "java/lang/StringBuilder")]
  staticTypes := #[.int, (.array .boolean)]
  resolved := Array.replicate 119 none
  statics := none }

def pool3 : Array CpInfo := pool [(1, u "java/lang/Cloneable"), (0, .class_ 1), (0, u "java/lang/Object"), (0, .class_ 3)] 3

/-- java/lang/Cloneable -/
def k3 : Class := { plain "java/lang/Cloneable" (some 0) with
  accessFlags := 1537
  interfaces := #[]
  cf := some (fileOf pool3 2 #[] #[] 1537 4 #[] #[])
  fields := #[]
  methods := #[]
  instanceTypes := #[]
  staticTypes := #[]
  resolved := Array.replicate 8 none
  statics := none }

def pool4 : Array CpInfo := pool [(1, u "java/io/Serializable"), (0, .class_ 1), (0, u "java/lang/Object"), (0, .class_ 3)] 3

/-- java/io/Serializable -/
def k4 : Class := { plain "java/io/Serializable" (some 0) with
  accessFlags := 1537
  interfaces := #[]
  cf := some (fileOf pool4 2 #[] #[] 1537 4 #[] #[])
  fields := #[]
  methods := #[]
  instanceTypes := #[]
  staticTypes := #[]
  resolved := Array.replicate 8 none
  statics := none }

/-- the primitive byte -/
def k5 : Class := { plain "byte" none with kind := .primitive 'B', accessFlags := 0x411 }
/-- [B -/
def k6 : Class := { plain "[B" (some 0) with kind := .array 5 .byte, interfaces := #[3, 4], accessFlags := 1041 }

/-- the primitive int -/
def k7 : Class := { plain "int" none with kind := .primitive 'I', accessFlags := 0x411 }
/-- [I -/
def k8 : Class := { plain "[I" (some 0) with kind := .array 7 .int, interfaces := #[3, 4], accessFlags := 1041 }

def heap : Heap := #[]
def classes : Array Class := #[k0, k1, k2, k3, k4, k5, k6, k7, k8]
def interned : List (Array UInt16 × Addr) := []
def slotsUsed : Nat := 0
def theMethod : MethodId := ⟨1, 1⟩
def args0 : Array Value := #[.int 5]
def aboutOver (below : List Frame) : State where
  vm := { classes := classes, interned := interned.toArray }
  heap := heap
  slotsUsed := slotsUsed
  threads := #[{ frames := .invoking theMethod args0 :: below }]
def below0 : List Frame := [.native { method := ⟨0, 0⟩, args := #[] }]
def about1 : State := aboutOver below0
def p0 : Program := .bare "" "" ""
def e0 : Env := launch0.env 0 0 0
theorem w_frames : about1.frames = Frame.invoking theMethod args0 :: below0 := rfl
set_option maxRecDepth 65536 in
theorem w_args : argsFit about1.vm theMethod args0 = true := by decide +kernel
set_option maxRecDepth 65536 in
theorem w_heap : heapFits about1 = true := by decide +kernel
set_option maxRecDepth 65536 in
theorem w_runnable : about1.curStatus? = some .runnable := by decide +kernel
set_option maxRecDepth 65536 in
theorem w_alone : about1.alone = true := by decide +kernel
set_option maxRecDepth 65536 in
theorem w_named : about1.methodNamed? x = some theMethod := by decide +kernel
set_option maxRecDepth 65536 in
theorem w_hears : about1.hears theMethod below0 = true := by decide +kernel
set_option maxRecDepth 65536 in
theorem w_ripe : about1.ripe theMethod args0 below0 = true := by decide +kernel
theorem w_running : about1.status = .running := rfl
set_option maxRecDepth 65536 in
theorem w_room : about1.hasRoom e0.platform room_1 = true :=
  launch0.hasRoom_least _ room_1 (by decide +kernel) (by decide +kernel) (by decide +kernel) (by decide +kernel) (by decide +kernel) (by decide +kernel)
theorem allAtoms_all (ts : List Jvm.Cond) (a : Array Jvm.Value) (st : Jvm.State) : (allAtoms ts).before a st = ts.all (fun c => c.before a st) := by
  induction ts with
  | nil => rfl
  | cons c t ih =>
    show (Jvm.Cond.and c (allAtoms t)).before a st = _
    rw [Jvm.Cond.before_and, ih, List.all_cons]
def words1 : List Jvm.Cond := Jvm.Cond.code x code maxLocals ret :: tables_1
/-- a 'code' word, met by the world's own term for the bytes: nothing is compared byte by byte -/
theorem code_word {y : MethodName} {bytes : ByteArray} {mx : Nat} {rt : Option FieldType} {a : Array Value} {s : State} {m : MethodId} {meth : Method} {c : Code} (h1 : s.methodNamed? y = some m) (h2 : s.vm.method? m = some meth) (h3 : meth.code = some c) (h4 : c.code = bytes)
    (h5 : (c.maxLocals == mx && c.exceptionTable.isEmpty && decide (c.maxStack ≤ mostOperands) && decide (meth.sig.returnType = rt) && !meth.locks && decide (parseMethodDescriptor y.desc = some meth.sig)) = true) : (Jvm.Cond.code y bytes mx rt).before a s = true := by
  simp only [Bool.and_eq_true, beq_iff_eq, Bool.not_eq_true', decide_eq_true_eq] at h5
  obtain ⟨⟨⟨⟨⟨g1, g2⟩, g3⟩, g4⟩, g5⟩, g6⟩ := h5
  simp [Cond.before, Cond.holds, Cond.value, h1, h2, h3, h4, g1, g2, g3, g4, g5, g6]
def isCode : Jvm.Cond → Bool
  | .code _ _ _ _ => true
  | _ => false
theorem all_split {L : List Jvm.Cond} {P : Jvm.Cond → Bool} (h1 : L.all (fun c => isCode c || P c) = true) (h2 : ∀ c ∈ L.filter isCode, P c = true) : L.all P = true := by
  refine List.all_eq_true.mpr fun c hc => ?_
  have h := List.all_eq_true.mp h1 c hc
  rcases Bool.eq_false_or_eq_true (isCode c) with hi | hi
  · exact h2 c (List.mem_filter.mpr ⟨hc, hi⟩)
  · simpa [hi] using h
set_option maxRecDepth 65536 in
theorem w_c0 : (Jvm.Cond.code x code maxLocals ret).before args0 about1 = true := code_word (m := ⟨1, 1⟩) (meth := k1m1) (c := k1c1) (by decide +kernel) rfl rfl rfl (by decide +kernel)
set_option maxRecDepth 65536 in
theorem w_c1 : (Jvm.Cond.code ({ cls := "com/example/kvasir/kvasir/NameReader", name := "isSpace", desc := "(C)Z" } : Jvm.MethodName) prog_104_method_6_code (1 : Nat) (Option.some Jvm.ClassFile.FieldType.boolean)).before args0 about1 = true := code_word (m := ⟨2, 0⟩) (meth := k2m0) (c := k2c0) (by decide +kernel) rfl rfl rfl (by decide +kernel)
def codes1 : List Jvm.Cond := [Jvm.Cond.code x code maxLocals ret, Jvm.Cond.code ({ cls := "com/example/kvasir/kvasir/NameReader", name := "isSpace", desc := "(C)Z" } : Jvm.MethodName) prog_104_method_6_code (1 : Nat) (Option.some Jvm.ClassFile.FieldType.boolean)]
set_option maxRecDepth 65536 in
theorem codes_eq : words1.filter isCode = codes1 := rfl
theorem w_codes : ∀ c ∈ words1.filter isCode, c.before args0 about1 = true := by
  rw [codes_eq]
  intro c hc
  simp only [codes1, List.mem_cons, List.not_mem_nil, or_false] at hc
  rcases hc with rfl | rfl
  · exact w_c0
  · exact w_c1
set_option maxRecDepth 65536 in
theorem w_t1 : words1.all (fun c => isCode c || c.before args0 about1) = true := by decide +kernel
theorem w_tables : (allAtoms (Jvm.Cond.code x code maxLocals ret :: tables_1)).before args0 about1 = true := by
  rw [allAtoms_all]
  show words1.all (fun c => c.before args0 about1) = true
  refine all_split ?_ w_codes
  rw [w_t1]
set_option maxRecDepth 65536 in
theorem w_case : (Jvm.Cond.and given_1 narrow_1).before args0 about1 = true := by decide +kernel
theorem w_applies : (headSpec (Jvm.Cond.code x code maxLocals ret :: tables_1) room_1).applies x e0.platform about1 = true :=
  (Spec.applies_iff w_frames).mpr ⟨w_running, w_runnable, w_alone, w_named, w_hears, w_ripe, w_room, w_tables⟩
theorem atStart : AtStart classFile x code maxLocals ret World_1 tables_1 room_1 Calls_1 rest_1 Pre_1 launch0 p0 e0 about1 theMethod args0 below0 :=
  ⟨lists_1, trivial, launch0.admits_env _ _ _, launch0.least_env, fairChoices_fair.cas, fairChoices_fair.clock, w_frames, w_args, w_heap, w_applies, trivial, trivial, w_case⟩
end start1
theorem witness_1 : WitnessClaimed_1 := ⟨start1.p0, start1.e0, start1.about1, start1.theMethod, start1.args0, start1.below0, start1.atStart⟩
end Jvm.Pilot.@@N@@
