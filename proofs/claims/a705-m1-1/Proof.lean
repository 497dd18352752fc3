import JvmDerived
import JvmDerived.Pilot.@@N@@Statement
import JvmDerived.Pilot.@@N@@Code
set_option linter.unusedVariables false
set_option linter.unusedSimpArgs false
@@BLOCK:NumsL.lean.txt@@
@@BLOCK:HandJ.lean.txt@@
@@BLOCK:SymMore.lean.txt@@
namespace Jvm.Pilot.@@N@@
open Jvm Jvm.ClassFile Sem Op Lib Jvm.Free Jvm.Stand Jvm.LawKit Jvm.RoadKit Bundle Jvm.Pilot.@@N@@.Jvm.D
/-- a long's slot, written short -/
abbrev jv (x : Int64) : Slot := .val (.long x)
section OwnKit
variable {p : Program} {l : Launch} {e : Env} {R : Room} {s : State} {m : MethodId} {args : Array Value} {below : List Frame} {meth : Method} {c : Code} {T T' : State} {locs : List Loc} {cells slots : Nat} {Q : Option Value → Heap → List Loc → Prop} {kc ks : Nat} {g : JFrame} {Z : State} {a0 : Array Value} {h : Heap} {Fi : State → Prop} {kk : Nat} {vm0 : Vm} {k0 : Nat}
/-- what is left to do, from the state T with the top frame g: the run comes to a state of which Fi holds -/
def own_G (p : Program) (e : Env) (below : List Frame) (Fi : State → Prop) (T : State) (g : JFrame) : Prop := ∃ t, Steps p.tables e below (T.setTop g) t ∧ Fi t
/-- a well ended invocation that began at s (and whose heap has kk cells or more) is one of which Fi holds -/
def own_Ends (Fi : State → Prop) (below : List Frame) (s : State) (kk : Nat) (Q : Option Value → Heap → List Loc → Prop) (kc ks : Nat) : Prop :=
  ∀ (t : State) (v : Option Value) (L : List Loc), t.status = .running → Ended t below (.returned v) → kk ≤ t.heap.size → s.WarmedH t.vm → s.sameButNew { t with vm := s.vm } L kc ks → Q v t.heap L → Fi t
theorem own_go (g' : JFrame) (k : ∀ t, Steps p.tables e below (T'.setTop g') t → Steps p.tables e below (T.setTop g) t) (h : own_G p e below Fi T' g') : own_G p e below Fi T g := by
  obtain ⟨t, h1, h2⟩ := h
  exact ⟨t, k t h1, h2⟩
/-- a step that leaves the locals alone -/
theorem own_gs {pc : Nat} {Ls : Array Slot} {S : List Value} (pc' : Nat) (S' : List Value) (k : ∀ t, Steps p.tables e below (T.setTop (mkF m pc' Ls S')) t → Steps p.tables e below (T.setTop (mkF m pc Ls S)) t) (h : own_G p e below Fi T (mkF m pc' Ls S')) : own_G p e below Fi T (mkF m pc Ls S) := own_go _ k h
theorem own_out (hF : own_Ends Fi below s kk Q kc ks) (hkk : kk ≤ T.heap.size) (X : Stand p l e R s m args below meth c T locs cells slots) (hlk : meth.locks = false) {v : Option Value} (hv : meth.sig.returnType = none → v = none)
    (st : ∀ fs, (∀ (f : JFrame) (acts : List Action), f.method = m → f.locked = none → f.entered = [] → (doReturn e (T.setTop f) acts v).1 = T.setFrames fs) → Steps p.tables e below (T.setTop g) (T.setFrames fs))
    (hQ : Q v T.heap locs) (h1 : cells ≤ kc) (h2 : slots ≤ ks) : own_G p e below Fi T g := by
  obtain ⟨fs, hr, hrun, hended, hW, hsame⟩ := X.leave (v := v) hv hlk
  exact ⟨_, st fs hr, hF _ v locs hrun hended hkk hW (hsame.mono h1 h2) hQ⟩
theorem own_retI (hF : own_Ends Fi below s kk Q kc ks) (hkk : kk ≤ T.heap.size) (X : Stand p l e R s m args below meth c T locs cells slots) (hx : p.tables.exec = Jvm.exec) (hlk : meth.locks = false) (hret : meth.sig.returnType = some .int) {pc : Nat} {Ls : Array Slot} {z : Int32} {rest : List Value} (hd : decode c.code pc = .ok (.ireturn, 1))
    (hQ : Q (some (.int z)) T.heap locs) (h1 : cells ≤ kc) (h2 : slots ≤ ks) : own_G p e below Fi T (mkF m pc Ls (.int z :: rest)) := by
  refine own_out hF hkk X hlk (v := some (.int z)) (fun h => by rw [hret] at h; cases h) (fun fs hl => ?_) hQ h1 h2
  have hm' : T.vm.method? m = some meth := X.method'
  have hn : narrow .int (.int z) = .int z := rfl
  show Steps p.tables e below (T.setTop { method := m, pc := pc, locals := Ls, stack := _ :: rest, locked := none }) _
  jvm_step X.here [X.here.top, hx, hd, hm', hret, hn]
  first | (intro acts; rw [hl _ acts rfl rfl rfl]) | rw [hl _ _ rfl rfl rfl]
  exact Steps.refl _
theorem own_retZ (hF : own_Ends Fi below s kk Q kc ks) (hkk : kk ≤ T.heap.size) (X : Stand p l e R s m args below meth c T locs cells slots) (hx : p.tables.exec = Jvm.exec) (hlk : meth.locks = false) (hret : meth.sig.returnType = some .boolean) {pc : Nat} {Ls : Array Slot} {z : Int32} {rest : List Value} (hd : decode c.code pc = .ok (.ireturn, 1))
    (hQ : Q (some (.int (z &&& 1))) T.heap locs) (h1 : cells ≤ kc) (h2 : slots ≤ ks) : own_G p e below Fi T (mkF m pc Ls (.int z :: rest)) :=
  own_out hF hkk X hlk (v := some (.int (z &&& 1))) (fun h => by rw [hret] at h; cases h) (fun fs hl => retN X hx (t := .boolean) hret (by simp) hd hl) hQ h1 h2
theorem own_retJ (hF : own_Ends Fi below s kk Q kc ks) (hkk : kk ≤ T.heap.size) (X : Stand p l e R s m args below meth c T locs cells slots) (hx : p.tables.exec = Jvm.exec) (hlk : meth.locks = false) (hret : meth.sig.returnType = some .long) {pc : Nat} {Ls : Array Slot} {z : Int64} (hd : decode c.code pc = .ok (.lreturn, 1))
    (hQ : Q (some (.long z)) T.heap locs) (h1 : cells ≤ kc) (h2 : slots ≤ ks) : own_G p e below Fi T (mkF m pc Ls [.long z]) :=
  own_out hF hkk X hlk (v := some (.long z)) (fun h => by rw [hret] at h; cases h) (fun fs hl => X.lreturnOut hx hret hd hl) hQ h1 h2
theorem own_retA (hF : own_Ends Fi below s kk Q kc ks) (hkk : kk ≤ T.heap.size) (X : Stand p l e R s m args below meth c T locs cells slots) (hx : p.tables.exec = Jvm.exec) (hlk : meth.locks = false) {t : FieldType} (hret : meth.sig.returnType = some t) (ht : t.isReference = true) {pc : Nat} {Ls : Array Slot} {z : Value} (hz : z.isRef = true) (hd : decode c.code pc = .ok (.areturn, 1))
    (hQ : Q (some z) T.heap locs) (h1 : cells ≤ kc) (h2 : slots ≤ ks) : own_G p e below Fi T (mkF m pc Ls [z]) :=
  own_out hF hkk X hlk (v := some z) (fun h => by rw [hret] at h; cases h) (fun fs hl => X.areturnOut hx hz hret ht hd hl) hQ h1 h2
theorem own_retV (hF : own_Ends Fi below s kk Q kc ks) (hkk : kk ≤ T.heap.size) (X : Stand p l e R s m args below meth c T locs cells slots) (hx : p.tables.exec = Jvm.exec) (hlk : meth.locks = false) (hret : meth.sig.returnType = none) {pc : Nat} {Ls : Array Slot} (hd : decode c.code pc = .ok (.return_, 1))
    (hQ : Q none T.heap locs) (h1 : cells ≤ kc) (h2 : slots ≤ ks) : own_G p e below Fi T (mkF m pc Ls []) :=
  own_out hF hkk X hlk (v := none) (fun _ => rfl) (fun fs hl => X.returnOut hx hret hd hl) hQ h1 h2
/-- a method's contract at one heap and one row of arguments -/
def own_C (l : Launch) (Z : State) (y : MethodName) (bytes : ByteArray) (mx : Nat) (ret : Option FieldType) (ws : List Jvm.Cond) (rm : Room) (as : Array Value) (h0 : Heap) (Q : Option Value → Heap → List Loc → Prop) : Prop :=
  MetFree l y (head1 (Jvm.Cond.code y bytes mx ret :: ws) rm) (fun a U => a = as ∧ Z.Warmed39 U.vm ∧ U.heap = h0) (fun _ _ _ _ _ => True) (fun _ U o U' => ∃ v L, o = .returned v ∧ Q v U'.heap L ∧ FrameEnd U o U' L rm.cells rm.slots)
theorem own_met {y : MethodName} {bytes : ByteArray} {mx : Nat} {ret : Option FieldType} {ws : List Jvm.Cond} {rm : Room} {as : Array Value} {h0 : Heap} (hp : plainFor y = true) (L0 : Array Slot) (hef : ∀ m, entryFrame m as mx = mkF m 0 L0 [])
    (body : ∀ (p : Program) (e : Env) (s : State) (m : MethodId) (below : List Frame) (meth : Method) (c : Code) (s₁ : State) (Fi : State → Prop), p.tables.exec = Jvm.exec → c.code = bytes → c.maxLocals = mx → s.vm.findClass y.cls = some m.cls → meth.sig.returnType = ret → meth.locks = false → Z.Warmed39 s.vm → meth.name = y.name →
      own_Ends Fi below s 0 Q rm.cells rm.slots → Stand p l e rm s m as below meth c s₁ [] 0 0 → s₁.heap = h0 → own_G p e below Fi s₁ (mkF m 0 L0 [])) :
    own_C l Z y bytes mx ret ws rm as h0 Q := by
  refine MetFree.of_bodySF hp hisR ?_
  intro p e s m args below meth c s₁ Bd hml0 hP hK
  obtain ⟨rfl, hZ, hh⟩ := hP
  have hown : s.vm.findClass y.cls = some m.cls := findClass_of_methodNamed Bd.named
  have hnm := (name_of_methodNamed Bd.named Bd.method).1
  have X0 : Stand p l e rm s m args below meth c s₁ [] 0 0 := Stand.of_body Bd
  have e0 : s₁.heap = h0 := by rw [← hh, Bd.state]; rfl
  obtain ⟨t, h1, o, h2⟩ := body p e s m below meth c s₁ (fun t => ∃ o, t.status = .running ∧ Ended t below o ∧ ∃ v L, o = .returned v ∧ Q v t.heap L ∧ FrameEnd s o t L rm.cells rm.slots) Bd.exec Bd.bytes hml0 hown Bd.returns Bd.notSynchronized hZ hnm
    (fun t v L r1 r2 _ r4 r5 r6 => ⟨_, r1, r2, v, L, rfl, r6, ⟨_, rfl⟩, r4, r5⟩) X0 e0
  exact ⟨t, o, castTop (hef m) h1, h2⟩
/-- a method's contract at one heap and one row of arguments, where it may intern -/
def own_CW (l : Launch) (Z : State) (y : MethodName) (bytes : ByteArray) (mx : Nat) (ret : Option FieldType) (ws : List Jvm.Cond) (rm : Room) (as : Array Value) (h0 : Heap) (Q : Option Value → Heap → List Loc → Prop) : Prop :=
  MetFree l y (head1 (Jvm.Cond.code y bytes mx ret :: ws) rm) (fun a U => a = as ∧ Z.Warmed39 U.vm ∧ U.heap = h0) (fun _ _ _ _ _ => True) (fun _ U o U' => ∃ v L, o = .returned v ∧ Q v U'.heap L ∧ ReturnedEndW U o U' L rm.cells rm.slots)
theorem own_metW {y : MethodName} {bytes : ByteArray} {mx : Nat} {ret : Option FieldType} {ws : List Jvm.Cond} {rm : Room} {as : Array Value} {h0 : Heap} (hp : plainFor y = true) (L0 : Array Slot) (hef : ∀ m, entryFrame m as mx = mkF m 0 L0 [])
    (body : ∀ (p : Program) (e : Env) (s : State) (vm0 : Vm) (m : MethodId) (below : List Frame) (meth : Method) (c : Code) (s₁ : State) (Fi : State → Prop), p.tables.exec = Jvm.exec → c.code = bytes → c.maxLocals = mx → (s.setVm vm0).vm.findClass y.cls = some m.cls → meth.sig.returnType = ret → meth.locks = false → Z.Warmed39 (s.setVm vm0).vm → meth.name = y.name →
      (∀ vm₁ n, s.Since vm₁ n → own_Ends Fi below (s.setVm vm₁) n Q rm.cells rm.slots) → s.Since vm0 0 → 0 ≤ h0.size → Stand p l e rm (s.setVm vm0) m as below meth c s₁ [] 0 0 → s₁.heap = h0 → own_G p e below Fi s₁ (mkF m 0 L0 [])) :
    own_CW l Z y bytes mx ret ws rm as h0 Q := by
  refine MetFree.of_bodySF hp hisR ?_
  intro p e s m args below meth c s₁ Bd hml0 hP hK
  obtain ⟨rfl, hZ, hh⟩ := hP
  have hown : s.vm.findClass y.cls = some m.cls := findClass_of_methodNamed Bd.named
  have hnm := (name_of_methodNamed Bd.named Bd.method).1
  have X0 : Stand p l e rm s m args below meth c s₁ [] 0 0 := Stand.of_body Bd
  have e0 : s₁.heap = h0 := by rw [← hh, Bd.state]; rfl
  obtain ⟨t, h1, o, h2⟩ := body p e s s.vm m below meth c s₁ (fun t => ∃ o, t.status = .running ∧ Ended t below o ∧ ∃ v L, o = .returned v ∧ Q v t.heap L ∧ ReturnedEndW s o t L rm.cells rm.slots) Bd.exec Bd.bytes hml0 hown Bd.returns Bd.notSynchronized hZ hnm
    (fun vm₁ n hS t v L r1 r2 r3 r4 r5 r6 => by
      obtain ⟨q1, q2, q3⟩ := hS.ended (U := t) r4 r3 r5
      exact ⟨_, r1, r2, v, L, rfl, r6, ⟨v, rfl⟩, q1, q2, q3⟩) ((State.WarmedH.refl s).since 0) (Nat.zero_le _) X0 e0
  exact ⟨t, o, castTop (hef m) h1, h2⟩
/-- a static call by the callee's contract -/
theorem own_callS (X : Stand p l e R s m args below meth c T locs cells slots) (hx : p.tables.exec = Jvm.exec) (hZ : Z.Warmed39 s.vm) {own : String} {index : Nat} {y : MethodName} {bytes : ByteArray} {mx : Nat} {ret : Option FieldType} {rm : Room} {Qc : Option Value → Heap → List Loc → Prop}
    (hown : s.vm.findClass own = some m.cls) (w1 : (Jvm.Cond.methodLink own index y).before a0 Z = true) (w2 : (Jvm.Cond.static y).before a0 Z = true) (w3 : (Jvm.Cond.initialized y.cls).before a0 Z = true) (w4 : (Jvm.Cond.code y bytes mx ret).before a0 Z = true) (hy : y.cls ≠ "java/lang/invoke/MethodHandle" ∧ y.cls ≠ "java/lang/invoke/VarHandle")
    (eT : T.heap = h) (argsL rest : List Value) (hM : own_C l Z y bytes mx ret [] rm argsL.toArray h Qc) (W : Nat) (hf : rm.frames + 1 ≤ R.frames) (hlo : W + (mx + 11) + rm.locals ≤ R.locals) (hW : (rest.map fun v => v.category).sum ≤ W) (hc : cells + rm.cells ≤ R.cells) (hs : slots + rm.slots ≤ R.slots)
    {pc : Nat} {Ls : Array Slot} {S : List Value} (hsize : Ls.size = c.maxLocals) (hlen : ∀ sig, parseMethodDescriptor y.desc = some sig → argsL.length = sig.parameters.length) (hS : S = argsL.reverse ++ rest) (hd : decode c.code pc = .ok (.invokestatic index, 3))
    (k : ∀ (T' : State) (v : Option Value) (L : List Loc), Stand p l e R s m args below meth c T' (locs ++ L) (cells + rm.cells) (slots + rm.slots) → Qc v T'.heap L → own_G p e below Fi T' (mkF m (pc + 3) Ls (v.toList ++ rest))) :
    own_G p e below Fi T (mkF m pc Ls S) := by
  obtain ⟨v, _, ⟨T', L', k', n'⟩, -, X', ⟨L, hQ, q1, q2, q3⟩, st⟩ := Jvm.LawKit.callS X hx (y := y) hown (mvT hZ w1) (mvT hZ w2) (mvT hZ w3) (mvT hZ w4) hy (backOf (W := W) hM hZ w4 w3 hf hlo) (g := mkF m pc Ls S) rfl hsize (argsL := argsL) (rest := rest) hlen hS (by show 2 * 0 + _ ≤ _; omega) hd (fun _ _ => ⟨rfl, eT, hc, hs⟩)
  dsimp only [Pt.U, Pt.locs, Pt.cells, Pt.slots] at X' q1 q2 q3 st hQ
  subst q1 q2 q3
  exact own_go _ st (k T' v L X' hQ)
/-- what a pure method's end is: this value, the heap as it was, no place written -/
def own_P (r : Value) (h0 : Heap) (v : Option Value) (h : Heap) (L : List Loc) : Prop := v = some r ∧ h = h0 ∧ L = []
/-- a static call of a pure method -/
theorem own_callP (X : Stand p l e R s m args below meth c T locs cells slots) (hx : p.tables.exec = Jvm.exec) (hZ : Z.Warmed39 s.vm) {own : String} {index : Nat} {y : MethodName} {bytes : ByteArray} {mx : Nat} {ret : Option FieldType} {fr lo : Nat} {r : Value}
    (hown : s.vm.findClass own = some m.cls) (w1 : (Jvm.Cond.methodLink own index y).before a0 Z = true) (w2 : (Jvm.Cond.static y).before a0 Z = true) (w3 : (Jvm.Cond.initialized y.cls).before a0 Z = true) (w4 : (Jvm.Cond.code y bytes mx ret).before a0 Z = true) (hy : y.cls ≠ "java/lang/invoke/MethodHandle" ∧ y.cls ≠ "java/lang/invoke/VarHandle")
    (eT : T.heap = h) (argsL rest : List Value) (hM : own_C l Z y bytes mx ret [] { frames := fr, cells := 0, slots := 0, locals := lo } argsL.toArray h (own_P r h)) (W : Nat) (hf : fr + 1 ≤ R.frames) (hlo : W + (mx + 11) + lo ≤ R.locals) (hW : (rest.map fun v => v.category).sum ≤ W) (hc : cells ≤ R.cells) (hs : slots ≤ R.slots)
    {pc : Nat} {Ls : Array Slot} {S : List Value} (hsize : Ls.size = c.maxLocals) (hlen : ∀ sig, parseMethodDescriptor y.desc = some sig → argsL.length = sig.parameters.length) (hS : S = argsL.reverse ++ rest) (hd : decode c.code pc = .ok (.invokestatic index, 3))
    (k : ∀ (T' : State), Stand p l e R s m args below meth c T' locs cells slots → T'.heap = h → own_G p e below Fi T' (mkF m (pc + 3) Ls (r :: rest))) :
    own_G p e below Fi T (mkF m pc Ls S) := by
  refine own_callS X hx hZ hown w1 w2 w3 w4 hy eT argsL rest hM W hf hlo hW hc hs hsize hlen hS hd ?_
  rintro T' v L X' ⟨rfl, q2, rfl⟩
  rw [List.append_nil] at X'
  exact k T' X' q2
/-- a constructor's call -/
theorem own_callI (X : Stand p l e R s m args below meth c T locs cells slots) (hx : p.tables.exec = Jvm.exec) (hZ : Z.Warmed39 s.vm) {own : String} {index : Nat} {y : MethodName} {bytes : ByteArray} {mx : Nat} {rm : Room} {Qc : Option Value → Heap → List Loc → Prop} (hy1 : y.name = "<init>")
    (hown : s.vm.findClass own = some m.cls) (w1 : (Jvm.Cond.methodLink own index y).before a0 Z = true) (w2 : (Jvm.Cond.instanceMethod y).before a0 Z = true) (w3 : (Jvm.Cond.initialized y.cls).before a0 Z = true) (w4 : (Jvm.Cond.code y bytes mx none).before a0 Z = true) (hy : y.cls ≠ "java/lang/invoke/MethodHandle" ∧ y.cls ≠ "java/lang/invoke/VarHandle")
    (eT : T.heap = h) (a : Addr) (argsL rest : List Value) (hM : own_C l Z y bytes mx none [] rm (.ref a :: argsL).toArray h Qc) (W : Nat) (hf : rm.frames + 1 ≤ R.frames) (hlo : W + (mx + 11) + rm.locals ≤ R.locals) (hW : (rest.map fun v => v.category).sum ≤ W) (hc : cells + rm.cells ≤ R.cells) (hs : slots + rm.slots ≤ R.slots)
    {pc : Nat} {Ls : Array Slot} {S : List Value} (hsize : Ls.size = c.maxLocals) (hlen : ∀ sig, parseMethodDescriptor y.desc = some sig → argsL.length = sig.parameters.length) (hS : S = argsL.reverse ++ .ref a :: rest) (hd : decode c.code pc = .ok (.invokespecial index, 3))
    (k : ∀ (T' : State) (v : Option Value) (L : List Loc), Stand p l e R s m args below meth c T' (locs ++ L) (cells + rm.cells) (slots + rm.slots) → Qc v T'.heap L → own_G p e below Fi T' (mkF m (pc + 3) Ls (v.toList ++ rest))) :
    own_G p e below Fi T (mkF m pc Ls S) := by
  obtain ⟨v, _, ⟨T', L', k', n'⟩, -, X', ⟨L, hQ, q1, q2, q3⟩, st⟩ := X.specialBack hx (y := y) hy1 hown (mvT hZ w1) (mvT hZ w2) (mvT hZ w4) hy (backOf (W := W) hM hZ w4 w3 hf hlo) (g := mkF m pc Ls S) rfl hsize (Steps.refl _) (a := a) (argsL := argsL) (rest := rest) hlen hS (by show 2 * 0 + _ ≤ _; omega) hd (fun _ _ => ⟨rfl, eT, hc, hs⟩)
  dsimp only [Pt.U, Pt.locs, Pt.cells, Pt.slots] at X' q1 q2 q3 st hQ
  subst q1 q2 q3
  exact own_go _ (fun t kt => st.trans kt) (k T' v L X' hQ)
/-- an instance method's call -/
theorem own_callV (X : Stand p l e R s m args below meth c T locs cells slots) (hx : p.tables.exec = Jvm.exec) (hZ : Z.Warmed39 s.vm) {own C : String} {index : Nat} {y : MethodName} {bytes : ByteArray} {mx : Nat} {ret : Option FieldType} {rm : Room} {Qc : Option Value → Heap → List Loc → Prop}
    (hown : s.vm.findClass own = some m.cls) (w1 : (Jvm.Cond.methodLink own index y).before a0 Z = true) (w5 : (Jvm.Cond.declares y).before a0 Z = true) (w6 : (Jvm.Cond.selects C y y).before a0 Z = true) (w2 : (Jvm.Cond.instanceMethod y).before a0 Z = true) (w3 : (Jvm.Cond.initialized y.cls).before a0 Z = true) (w4 : (Jvm.Cond.code y bytes mx ret).before a0 Z = true) (hy : y.cls ≠ "java/lang/invoke/MethodHandle" ∧ y.cls ≠ "java/lang/invoke/VarHandle")
    (eT : T.heap = h) {a : Addr} (E : Exa Z h a C) (argsL rest : List Value) (hM : own_C l Z y bytes mx ret [] rm (.ref a :: argsL).toArray h Qc) (W : Nat) (hf : rm.frames + 1 ≤ R.frames) (hlo : W + (mx + 11) + rm.locals ≤ R.locals) (hW : (rest.map fun v => v.category).sum ≤ W) (hc : cells + rm.cells ≤ R.cells) (hs : slots + rm.slots ≤ R.slots)
    {pc : Nat} {Ls : Array Slot} {S : List Value} (hsize : Ls.size = c.maxLocals) (hlen : ∀ sig, parseMethodDescriptor y.desc = some sig → argsL.length = sig.parameters.length) (hS : S = argsL.reverse ++ .ref a :: rest) (hd : decode c.code pc = .ok (.invokevirtual index, 3))
    (k : ∀ (T' : State) (v : Option Value) (L : List Loc), Stand p l e R s m args below meth c T' (locs ++ L) (cells + rm.cells) (slots + rm.slots) → Qc v T'.heap L → own_G p e below Fi T' (mkF m (pc + 3) Ls (v.toList ++ rest))) :
    own_G p e below Fi T (mkF m pc Ls S) := by
  obtain ⟨cq, kq, qa, qb, qc⟩ := isOf hZ eT E
  obtain ⟨v, _, ⟨T', L', k', n'⟩, -, X', ⟨L, hQ, q1, q2, q3⟩, st⟩ := X.virtualBack hx (y := y) (z := y) hown (mvT hZ w1) (mvT hZ w5) (notFace_of_selects (args := #[]) (mvT hZ w6)) (mvT hZ w6) (mvT hZ w2) hy (backOf (W := W) hM hZ w4 w3 hf hlo) qa qc (g := mkF m pc Ls S) rfl hsize (Steps.refl _) (argsL := argsL) (rest := rest) hlen hS (by show 2 * 0 + _ ≤ _; omega) hd (fun _ _ => ⟨rfl, eT, hc, hs⟩)
  dsimp only [Pt.U, Pt.locs, Pt.cells, Pt.slots] at X' q1 q2 q3 st hQ
  subst q1 q2 q3
  exact own_go _ (fun t kt => st.trans kt) (k T' v L X' hQ)
end OwnKit
section OwnHeap
variable {p : Program} {l : Launch} {e : Env} {R : Room} {s : State} {m : MethodId} {args : Array Value} {below : List Frame} {meth : Method} {c : Code} {T T' : State} {locs : List Loc} {cells slots n0 : Nat} {Q : Option Value → Heap → List Loc → Prop} {kc ks : Nat} {g : JFrame} {Z : State} {a0 : Array Value} {h h' h0 : Heap} {a b : Addr} {vs : List Value} {ty : FieldType} {v w : Value} {sl pc : Nat} {Ls : Array Slot} {rest : List Value} {Fi : State → Prop} {kk : Nat} {vm0 : Vm} {k0 : Nat}
/-- the run stands here, and whatever was written lies in cells at or above n0 -/
def own_S (p : Program) (l : Launch) (e : Env) (R : Room) (s : State) (m : MethodId) (args : Array Value) (below : List Frame) (meth : Method) (c : Code) (n0 : Nat) (T : State) (cells slots : Nat) : Prop := ∃ locs, Stand p l e R s m args below meth c T locs cells slots ∧ Fr n0 locs
theorem own_S.of (X : Stand p l e R s m args below meth c T [] cells slots) (n0 : Nat) : own_S p l e R s m args below meth c n0 T cells slots := ⟨[], X, Fr.nil n0⟩
theorem own_S.here (X : own_S p l e R s m args below meth c n0 T cells slots) : At T m c below := X.elim fun _ q => q.1.here
theorem own_S.ldcInt (X : own_S p l e R s m args below meth c n0 T cells slots) (hx : p.tables.exec = Jvm.exec) {own : String} {index : Nat} {v : Int32} (hown : s.vm.findClass own = some m.cls)
    (hc : (Jvm.Cond.constant own index v).before args s = true) {g : JFrame} (hg : g.method = m) (hd : decode c.code g.pc = .ok (.ldc index, 2)) (t : State) (k : Steps p.tables e below (T.setTop { g with pc := g.pc + 2, stack := .int v :: g.stack }) t) : Steps p.tables e below (T.setTop g) t :=
  X.elim fun _ q => q.1.ldcInt hx hown hc hg hd t k
theorem own_S.ldcwInt (X : own_S p l e R s m args below meth c n0 T cells slots) (hx : p.tables.exec = Jvm.exec) {own : String} {index : Nat} {v : Int32} (hown : s.vm.findClass own = some m.cls)
    (hc : (Jvm.Cond.constant own index v).before args s = true) {g : JFrame} (hg : g.method = m) (hd : decode c.code g.pc = .ok (.ldc_w index, 3)) (t : State) (k : Steps p.tables e below (T.setTop { g with pc := g.pc + 3, stack := .int v :: g.stack }) t) : Steps p.tables e below (T.setTop g) t :=
  X.elim fun _ q => q.1.ldcwInt hx hown hc hg hd t k
theorem own_S.ldc2Long (X : own_S p l e R s m args below meth c n0 T cells slots) (hx : p.tables.exec = Jvm.exec) {own : String} {index : Nat} {v : Int64} (hown : s.vm.findClass own = some m.cls)
    (hc : (Jvm.Cond.constantLong own index v).before args s = true) {g : JFrame} (hg : g.method = m) (hd : decode c.code g.pc = .ok (.ldc2_w index, 3)) (t : State) (k : Steps p.tables e below (T.setTop { g with pc := g.pc + 3, stack := .long v :: g.stack }) t) : Steps p.tables e below (T.setTop g) t :=
  X.elim fun _ q => q.1.ldc2Long hx hown hc hg hd t k
theorem own_S.more (X : own_S p l e R s m args below meth c n0 T cells slots) {cells' slots' : Nat} (h1 : cells ≤ cells') (h2 : slots ≤ slots') : own_S p l e R s m args below meth c n0 T cells' slots' := X.elim fun L q => ⟨L, q.1.more h1 h2, q.2⟩
/-- what a contract with a heap says: the places written are new, and P -/
def own_Q (n0 : Nat) (P : Option Value → Heap → Prop) (v : Option Value) (h : Heap) (L : List Loc) : Prop := Fr n0 L ∧ P v h
theorem own_S.retI {P : Option Value → Heap → Prop} (hF : own_Ends Fi below s kk (own_Q n0 P) kc ks) (hkk : kk ≤ T.heap.size) (X : own_S p l e R s m args below meth c n0 T cells slots) (hx : p.tables.exec = Jvm.exec) (hlk : meth.locks = false) (hret : meth.sig.returnType = some .int) {z : Int32} (hd : decode c.code pc = .ok (.ireturn, 1))
    (hQ : P (some (.int z)) T.heap) (h1 : cells ≤ kc) (h2 : slots ≤ ks) : own_G p e below Fi T (mkF m pc Ls (.int z :: rest)) := X.elim fun L q => own_retI hF hkk q.1 hx hlk hret hd ⟨q.2, hQ⟩ h1 h2
theorem own_S.retZ {P : Option Value → Heap → Prop} (hF : own_Ends Fi below s kk (own_Q n0 P) kc ks) (hkk : kk ≤ T.heap.size) (X : own_S p l e R s m args below meth c n0 T cells slots) (hx : p.tables.exec = Jvm.exec) (hlk : meth.locks = false) (hret : meth.sig.returnType = some .boolean) {z : Int32} (hd : decode c.code pc = .ok (.ireturn, 1))
    (hQ : P (some (.int (z &&& 1))) T.heap) (h1 : cells ≤ kc) (h2 : slots ≤ ks) : own_G p e below Fi T (mkF m pc Ls (.int z :: rest)) := X.elim fun L q => own_retZ hF hkk q.1 hx hlk hret hd ⟨q.2, hQ⟩ h1 h2
theorem own_S.retJ {P : Option Value → Heap → Prop} (hF : own_Ends Fi below s kk (own_Q n0 P) kc ks) (hkk : kk ≤ T.heap.size) (X : own_S p l e R s m args below meth c n0 T cells slots) (hx : p.tables.exec = Jvm.exec) (hlk : meth.locks = false) (hret : meth.sig.returnType = some .long) {z : Int64} (hd : decode c.code pc = .ok (.lreturn, 1))
    (hQ : P (some (.long z)) T.heap) (h1 : cells ≤ kc) (h2 : slots ≤ ks) : own_G p e below Fi T (mkF m pc Ls [.long z]) := X.elim fun L q => own_retJ hF hkk q.1 hx hlk hret hd ⟨q.2, hQ⟩ h1 h2
theorem own_S.retA {P : Option Value → Heap → Prop} (hF : own_Ends Fi below s kk (own_Q n0 P) kc ks) (hkk : kk ≤ T.heap.size) (X : own_S p l e R s m args below meth c n0 T cells slots) (hx : p.tables.exec = Jvm.exec) (hlk : meth.locks = false) {t : FieldType} (hret : meth.sig.returnType = some t) (ht : t.isReference = true) {z : Value} (hz : z.isRef = true) (hd : decode c.code pc = .ok (.areturn, 1))
    (hQ : P (some z) T.heap) (h1 : cells ≤ kc) (h2 : slots ≤ ks) : own_G p e below Fi T (mkF m pc Ls [z]) := X.elim fun L q => own_retA hF hkk q.1 hx hlk hret ht hz hd ⟨q.2, hQ⟩ h1 h2
theorem own_S.retV {P : Option Value → Heap → Prop} (hF : own_Ends Fi below s kk (own_Q n0 P) kc ks) (hkk : kk ≤ T.heap.size) (X : own_S p l e R s m args below meth c n0 T cells slots) (hx : p.tables.exec = Jvm.exec) (hlk : meth.locks = false) (hret : meth.sig.returnType = none) (hd : decode c.code pc = .ok (.return_, 1))
    (hQ : P none T.heap) (h1 : cells ≤ kc) (h2 : slots ≤ ks) : own_G p e below Fi T (mkF m pc Ls []) := X.elim fun L q => own_retV hF hkk q.1 hx hlk hret hd ⟨q.2, hQ⟩ h1 h2
/-- fields -/
theorem own_S.getF (X : own_S p l e R s m args below meth c n0 T cells slots) (hx : p.tables.exec = Jvm.exec) (hZ : Z.Warmed39 s.vm) {own C n d : String} {index : Nat} (hown : s.vm.findClass own = some m.cls) (w1 : (Jvm.Cond.fieldLink own index C n d).before a0 Z = true) (eT : T.heap = h) (F : Fld Z h a C n d v) (hd : decode c.code pc = .ok (.getfield index, 3))
    (k : ∀ T', own_S p l e R s m args below meth c n0 T' cells slots → T'.heap = h → own_G p e below Fi T' (mkF m (pc + 3) Ls (v :: rest))) : own_G p e below Fi T (mkF m pc Ls (.ref a :: rest)) := by
  obtain ⟨locs, Y, N⟩ := X
  obtain ⟨T', Y', e', st⟩ := Jvm.RoadKit.getF Y hx hZ hown (host := "") (Or.inl w1) Via.refl eT F (g := mkF m pc Ls (.ref a :: rest)) rfl rfl hd
  exact own_go _ st (k T' ⟨locs, Y', N⟩ e')
theorem own_S.putF (X : own_S p l e R s m args below meth c n0 T cells slots) (hx : p.tables.exec = Jvm.exec) (hZ : Z.Warmed39 s.vm) {own C n d : String} {index kk : Nat} {ty : FieldType} (hown : s.vm.findClass own = some m.cls) (w1 : (Jvm.Cond.fieldLink own index C n d).before a0 Z = true) (eT : T.heap = h) {old : Value} (F : Fld Z h a C n d old) (E : Exa Z h a C) (g0 : n0 ≤ a)
    (L : (Jvm.Cond.lays C C n d).before a0 Z = true ∨ ((Jvm.Cond.laysFinal C C n d).before a0 Z = true ∧ own = C ∧ meth.name = "<init>")) (wi : (Jvm.Cond.instantiable C kk).before a0 Z = true) (hty : parseFieldDescriptor d = some ty) (hn : narrow ty v = v) (hf : fits ty v = true) (hd : decode c.code pc = .ok (.putfield index, 3))
    (k : ∀ T' h', own_S p l e R s m args below meth c n0 T' cells slots → T'.heap = h' → Wr h h' a (Jvm.RoadKit.slotOf Z C n d) v → own_G p e below Fi T' (mkF m (pc + 3) Ls rest)) : own_G p e below Fi T (mkF m pc Ls (v :: .ref a :: rest)) := by
  obtain ⟨locs, Y, N⟩ := X
  obtain ⟨T', h', Y', e', W, st⟩ := Jvm.RoadKit.putF Y hx hZ hown (host := "") (Or.inl w1) Via.refl eT F E L wi hty hn hf (g := mkF m pc Ls (v :: .ref a :: rest)) rfl rfl hd
  exact own_go _ st (k T' h' ⟨_, Y', Fr.snoc Y' N g0⟩ e' W)
theorem own_S.initO (X : own_S p l e R s m args below meth c n0 T cells slots) (hx : p.tables.exec = Jvm.exec) (hZ : Z.Warmed39 s.vm) {own : String} {idx : Nat} (hown : s.vm.findClass own = some m.cls) (w1 : (Jvm.Cond.methodLink own idx Lib.objectInit).before a0 Z = true) (w2 : (Jvm.Cond.instanceMethod Lib.objectInit).before a0 Z = true)
    (w3 : (Jvm.Cond.code Lib.objectInit ⟨#[0xb1]⟩ 1 none).before a0 Z = true) (eT : T.heap = h) (hsize : Ls.size = c.maxLocals) (hd : decode c.code pc = .ok (.invokespecial idx, 3)) (hf : 1 ≤ R.frames) (W : Nat) (hW : (rest.map fun v => v.category).sum ≤ W) (hl : W + 12 ≤ R.locals)
    (k : ∀ T', own_S p l e R s m args below meth c n0 T' cells slots → T'.heap = h → own_G p e below Fi T' (mkF m (pc + 3) Ls rest)) : own_G p e below Fi T (mkF m pc Ls (.ref a :: rest)) := by
  obtain ⟨locs, Y, N⟩ := X
  obtain ⟨T', Y', e', st⟩ := Jvm.RoadKit.initO Y hx hZ hown w1 w2 w3 eT (g := mkF m pc Ls (.ref a :: rest)) rfl hsize (a := a) (rest := rest) rfl hd hf (W := W) (by show 2 * 0 + _ ≤ _; omega) hl
  exact own_go _ st (k T' ⟨locs, Y', N⟩ e')
/-- new -/
theorem own_S.newO (X : own_S p l e R s m args below meth c n0 T cells slots) (hx : p.tables.exec = Jvm.exec) (hZ : Z.Warmed39 s.vm) {own C : String} {index n : Nat} (hown : s.vm.findClass own = some m.cls) (w1 : (Jvm.Cond.classLink own index C).before a0 Z = true) (wi : (Jvm.Cond.instantiable C n).before a0 Z = true) (wz : (Jvm.Cond.initialized C).before a0 Z = true) (eT : T.heap = h)
    (hd : decode c.code pc = .ok (.new index, 3)) (hc : cells + 1 ≤ R.cells) (hl : slots + n ≤ R.slots)
    (k : ∀ T' h' (b : Addr), own_S p l e R s m args below meth c n0 T' (cells + 1) (slots + n) → T'.heap = h' → b = h.size → Ext h h' → Exa Z h' b C → (∀ {O nm d : String} {ty : FieldType}, Laid Z a0 C O nm d → parseFieldDescriptor d = some ty → Fld Z h' b O nm d (defaultValue ty)) → own_G p e below Fi T' (mkF m (pc + 3) Ls (.ref b :: rest))) :
    own_G p e below Fi T (mkF m pc Ls rest) := by
  obtain ⟨locs, Y, N⟩ := X
  obtain ⟨T', h', Y', e', E, A, D, -, st⟩ := Jvm.RoadKit.newO Y hx hZ hown w1 wi wz eT (g := mkF m pc Ls rest) rfl hd hc hl
  exact own_go _ st (k T' h' h.size ⟨_, Y', N⟩ e' rfl E A D)
/-- an array, by the list of what it holds -/
def own_A (Z : State) (h : Heap) (ty : FieldType) (a : Addr) (vs : List Value) : Prop := ∃ cl : Cell, Arr Z h a cl ty ∧ cl.slots = vs.toArray ∧ vs.length < 2 ^ 31
theorem own_A.lt (A : own_A Z h ty a vs) : a < h.size := A.elim fun _ q => q.1.lt
theorem own_A.ext (A : own_A Z h ty a vs) (E : Ext h h') : own_A Z h' ty a vs := A.elim fun cl q => ⟨cl, q.1.ext E, q.2⟩
theorem own_A.other (A : own_A Z h ty b vs) (W : Wr h h' a sl v) (q : b ≠ a) : own_A Z h' ty b vs := A.elim fun cl r => ⟨cl, r.1.other W q, r.2⟩
theorem own_A.keep {ws : List Addr} (A : own_A Z h ty a vs) (K : Keep h h' ws) (q : a ∉ ws) : own_A Z h' ty a vs := A.elim fun cl r => ⟨cl, ⟨K.2.1 a cl r.1.1 q, r.1.2⟩, r.2⟩
theorem own_A.set (A : own_A Z h ty a vs) {i : Nat} (W : Wr h h' a i v) : own_A Z h' ty a (vs.set i v) := by
  obtain ⟨cl, A, q1, q2⟩ := A
  refine ⟨_, A.same W, ?_, by rw [List.length_set]; exact q2⟩
  simp [Cell.setSlot, q1]
theorem own_A.len (A : own_A Z h ty a vs) : vs.length < 2 ^ 31 := A.elim fun _ q => q.2.2
theorem own_clamp {j : Int32} {i : Nat} (hj : j.toInt = i) : j.toNatClampNeg = i ∧ ¬ j < 0 := by
  refine ⟨by simp [Int32.toNatClampNeg, hj], ?_⟩
  rw [Int32.lt_iff_toInt_lt, Int32.toInt_zero]; omega
theorem own_in {cl : Cell} (q1 : cl.slots = vs.toArray) {j : Int32} {i : Nat} (hj : j.toInt = i) (hi : i < vs.length) : ¬ (j < 0 ∨ cl.slots.size ≤ j.toNatClampNeg) := by
  obtain ⟨c1, c2⟩ := own_clamp hj
  rw [q1, c1]; intro r
  rcases r with r | r
  · exact c2 r
  · simp at r; omega
theorem own_lt_of {i : Nat} (hv : vs[i]? = some v) : i < vs.length := (List.getElem?_eq_some_iff.mp hv).1
theorem own_S.ldJ (X : own_S p l e R s m args below meth c n0 T cells slots) (hx : p.tables.exec = Jvm.exec) (hZ : Z.Warmed39 s.vm) (eT : T.heap = h) (A : own_A Z h .long a vs) {j : Int32} (i : Nat) (hj : j.toInt = i) (hv : vs[i]? = some v) (hd : decode c.code pc = .ok (.laload, 1))
    (k : own_G p e below Fi T (mkF m (pc + 1) Ls (v :: rest))) : own_G p e below Fi T (mkF m pc Ls (.int j :: .ref a :: rest)) := by
  obtain ⟨locs, Y, N⟩ := X
  obtain ⟨cl, A, q1, q2⟩ := A
  refine own_go _ (fun t kt => Y.laload hx (j := j) (v := v) (by rw [eT]; exact A.1) (State.isArrayOf_alike hZ.alike A.2.1) A.2.2 (own_in q1 hj (own_lt_of hv)) (by rw [(own_clamp hj).1, q1]; simpa using hv) (g := mkF m pc Ls (.int j :: .ref a :: rest)) rfl rfl hd t kt) k
theorem own_S.ldI (X : own_S p l e R s m args below meth c n0 T cells slots) (hx : p.tables.exec = Jvm.exec) (hZ : Z.Warmed39 s.vm) (eT : T.heap = h) (A : own_A Z h .int a vs) {j : Int32} (i : Nat) (hj : j.toInt = i) (hv : vs[i]? = some v) (hd : decode c.code pc = .ok (.iaload, 1))
    (k : own_G p e below Fi T (mkF m (pc + 1) Ls (v :: rest))) : own_G p e below Fi T (mkF m pc Ls (.int j :: .ref a :: rest)) := by
  obtain ⟨locs, Y, N⟩ := X
  obtain ⟨cl, A, q1, q2⟩ := A
  refine own_go _ (fun t kt => Y.iaload hx (j := j) (v := v) (by rw [eT]; exact A.1) (State.isArrayOf_alike hZ.alike A.2.1) A.2.2 (own_in q1 hj (own_lt_of hv)) (by rw [(own_clamp hj).1, q1]; simpa using hv) (g := mkF m pc Ls (.int j :: .ref a :: rest)) rfl rfl hd t kt) k
theorem own_S.ldB (X : own_S p l e R s m args below meth c n0 T cells slots) (hx : p.tables.exec = Jvm.exec) (hZ : Z.Warmed39 s.vm) (eT : T.heap = h) (A : own_A Z h .byte a vs) {j : Int32} (i : Nat) (hj : j.toInt = i) (hv : vs[i]? = some v) (hd : decode c.code pc = .ok (.baload, 1))
    (k : own_G p e below Fi T (mkF m (pc + 1) Ls (v :: rest))) : own_G p e below Fi T (mkF m pc Ls (.int j :: .ref a :: rest)) := by
  obtain ⟨locs, Y, N⟩ := X
  obtain ⟨cl, A, q1, q2⟩ := A
  refine own_go _ (fun t kt => Y.baloadBytes hx (j := j) (v := v) (by rw [eT]; exact A.1) (State.isArrayOf_alike hZ.alike A.2.1) A.2.2 (own_in q1 hj (own_lt_of hv)) (by rw [(own_clamp hj).1, q1]; simpa using hv) (g := mkF m pc Ls (.int j :: .ref a :: rest)) rfl rfl hd t kt) k
theorem own_S.alen (X : own_S p l e R s m args below meth c n0 T cells slots) (hx : p.tables.exec = Jvm.exec) (hZ : Z.Warmed39 s.vm) (eT : T.heap = h) (A : own_A Z h ty a vs) (hd : decode c.code pc = .ok (.arraylength, 1))
    (k : own_G p e below Fi T (mkF m (pc + 1) Ls (.int (Int32.ofNat vs.length) :: rest))) : own_G p e below Fi T (mkF m pc Ls (.ref a :: rest)) := by
  obtain ⟨locs, Y, N⟩ := X
  obtain ⟨cl, A, q1, q2⟩ := A
  have q : cl.slots.size.toInt32 = Int32.ofNat vs.length := by rw [q1]; simp
  refine own_go _ (fun t kt => Y.arraylength hx (by rw [eT]; exact A.1) (State.isArrayOf_alike hZ.alike A.2.1) (g := mkF m pc Ls (.ref a :: rest)) rfl rfl hd t (by rw [q]; exact kt)) k
theorem own_S.stJ (X : own_S p l e R s m args below meth c n0 T cells slots) (hx : p.tables.exec = Jvm.exec) (hZ : Z.Warmed39 s.vm) (eT : T.heap = h) (A : own_A Z h .long a vs) (g0 : n0 ≤ a) {j : Int32} {x : Int64} (i : Nat) (hj : j.toInt = i) (hi : i < vs.length) (hd : decode c.code pc = .ok (.lastore, 1))
    (k : ∀ T' h', own_S p l e R s m args below meth c n0 T' cells slots → T'.heap = h' → Wr h h' a i (.long x) → own_A Z h' .long a (vs.set i (.long x)) → own_G p e below Fi T' (mkF m (pc + 1) Ls rest)) : own_G p e below Fi T (mkF m pc Ls (.long x :: .int j :: .ref a :: rest)) := by
  obtain ⟨locs, Y, N⟩ := X
  have A' := A
  obtain ⟨cl, A, q1, q2⟩ := A
  obtain ⟨T', h', Y', e', W, st⟩ := Jvm.RoadKit.stJ Y hx hZ eT A (j := j) (x := x) (own_in q1 hj hi) (g := mkF m pc Ls (.long x :: .int j :: .ref a :: rest)) rfl rfl hd
  rw [(own_clamp hj).1] at W
  exact own_go _ st (k T' h' ⟨_, Y', Fr.snoc Y' N g0⟩ e' W (A'.set W))
theorem own_S.stI (X : own_S p l e R s m args below meth c n0 T cells slots) (hx : p.tables.exec = Jvm.exec) (hZ : Z.Warmed39 s.vm) (eT : T.heap = h) (A : own_A Z h .int a vs) (g0 : n0 ≤ a) {j : Int32} {x : Int32} (i : Nat) (hj : j.toInt = i) (hi : i < vs.length) (hd : decode c.code pc = .ok (.iastore, 1))
    (k : ∀ T' h', own_S p l e R s m args below meth c n0 T' cells slots → T'.heap = h' → Wr h h' a i (.int x) → own_A Z h' .int a (vs.set i (.int x)) → own_G p e below Fi T' (mkF m (pc + 1) Ls rest)) : own_G p e below Fi T (mkF m pc Ls (.int x :: .int j :: .ref a :: rest)) := by
  obtain ⟨locs, Y, N⟩ := X
  have A' := A
  obtain ⟨cl, A, q1, q2⟩ := A
  obtain ⟨T', h', Y', e', W, st⟩ := Jvm.RoadKit.stI Y hx hZ eT A (j := j) (x := x) (own_in q1 hj hi) (g := mkF m pc Ls (.int x :: .int j :: .ref a :: rest)) rfl rfl hd
  rw [(own_clamp hj).1] at W
  exact own_go _ st (k T' h' ⟨_, Y', Fr.snoc Y' N g0⟩ e' W (A'.set W))
theorem own_S.stB (X : own_S p l e R s m args below meth c n0 T cells slots) (hx : p.tables.exec = Jvm.exec) (hZ : Z.Warmed39 s.vm) (eT : T.heap = h) (A : own_A Z h .byte a vs) (g0 : n0 ≤ a) {j : Int32} {x : Int32} (i : Nat) (hj : j.toInt = i) (hi : i < vs.length) (hd : decode c.code pc = .ok (.bastore, 1))
    (k : ∀ T' h', own_S p l e R s m args below meth c n0 T' cells slots → T'.heap = h' → Wr h h' a i (.int x.toInt8.toInt32) → own_A Z h' .byte a (vs.set i (.int x.toInt8.toInt32)) → own_G p e below Fi T' (mkF m (pc + 1) Ls rest)) : own_G p e below Fi T (mkF m pc Ls (.int x :: .int j :: .ref a :: rest)) := by
  obtain ⟨locs, Y, N⟩ := X
  have A' := A
  obtain ⟨cl, A, q1, q2⟩ := A
  obtain ⟨T', h', Y', e', W, st⟩ := Jvm.RoadKit.stB Y hx hZ eT A (j := j) (x := x) (own_in q1 hj hi) (g := mkF m pc Ls (.int x :: .int j :: .ref a :: rest)) rfl rfl hd
  rw [(own_clamp hj).1] at W
  exact own_go _ st (k T' h' ⟨_, Y', Fr.snoc Y' N g0⟩ e' W (A'.set W))
theorem own_S.stZ (X : own_S p l e R s m args below meth c n0 T cells slots) (hx : p.tables.exec = Jvm.exec) (hZ : Z.Warmed39 s.vm) (eT : T.heap = h) (A : own_A Z h .boolean a vs) (g0 : n0 ≤ a) {j : Int32} {x : Int32} (i : Nat) (hj : j.toInt = i) (hi : i < vs.length) (hd : decode c.code pc = .ok (.bastore, 1))
    (k : ∀ T' h', own_S p l e R s m args below meth c n0 T' cells slots → T'.heap = h' → Wr h h' a i (.int (x &&& 1)) → own_A Z h' .boolean a (vs.set i (.int (x &&& 1))) → own_G p e below Fi T' (mkF m (pc + 1) Ls rest)) : own_G p e below Fi T (mkF m pc Ls (.int x :: .int j :: .ref a :: rest)) := by
  obtain ⟨locs, Y, N⟩ := X
  have A' := A
  obtain ⟨cl, A, q1, q2⟩ := A
  obtain ⟨T', h', Y', e', W, st⟩ := Jvm.RoadKit.stZ Y hx hZ eT A (j := j) (x := x) (own_in q1 hj hi) (g := mkF m pc Ls (.int x :: .int j :: .ref a :: rest)) rfl rfl hd
  rw [(own_clamp hj).1] at W
  exact own_go _ st (k T' h' ⟨_, Y', Fr.snoc Y' N g0⟩ e' W (A'.set W))
theorem own_S.newP (X : own_S p l e R s m args below meth c n0 T cells slots) (hx : p.tables.exec = Jvm.exec) (hZ : Z.Warmed39 s.vm) {aty : ArrayType} (w1 : (Jvm.Cond.arrayClass (newarray.typeOf aty)).before a0 Z = true) (eT : T.heap = h) {j : Int32} (n : Nat) (hj : j.toInt = n) (hd : decode c.code pc = .ok (.newarray aty, 2)) (cap : Nat) (hn : n ≤ cap) (hb : cap * 8 ≤ 536870912) (hc : cells + 1 ≤ R.cells) (hl : slots + cap ≤ R.slots)
    (k : ∀ T' h' (b : Addr), own_S p l e R s m args below meth c n0 T' (cells + 1) (slots + cap) → T'.heap = h' → b = h.size → Ext h h' → own_A Z h' (newarray.typeOf aty) b (List.replicate n (defaultValue (newarray.typeOf aty))) → own_G p e below Fi T' (mkF m (pc + 2) Ls (.ref b :: rest))) :
    own_G p e below Fi T (mkF m pc Ls (.int j :: rest)) := by
  obtain ⟨locs, Y, N⟩ := X
  obtain ⟨c1, c2⟩ := own_clamp hj
  obtain ⟨T', h', cA, Y', e', E, A, st⟩ := Jvm.RoadKit.newP Y hx hZ w1 eT (g := mkF m pc Ls (.int j :: rest)) rfl hd rfl c2 (cap := cap) (by rw [c1]; exact hn) hb hc hl
  refine own_go _ st (k T' h' h.size ⟨_, Y', N⟩ e' rfl E ⟨_, A, ?_, ?_⟩)
  · simp [newA, c1]
  · rw [List.length_replicate]; omega
/-- calls -/
theorem own_S.callS (X : own_S p l e R s m args below meth c n0 T cells slots) (hx : p.tables.exec = Jvm.exec) (hZ : Z.Warmed39 s.vm) {own : String} {index : Nat} {y : MethodName} {bytes : ByteArray} {mx : Nat} {ret : Option FieldType} {rm : Room} {P : Option Value → Heap → Prop}
    (hown : s.vm.findClass own = some m.cls) (w1 : (Jvm.Cond.methodLink own index y).before a0 Z = true) (w2 : (Jvm.Cond.static y).before a0 Z = true) (w3 : (Jvm.Cond.initialized y.cls).before a0 Z = true) (w4 : (Jvm.Cond.code y bytes mx ret).before a0 Z = true) (hy : y.cls ≠ "java/lang/invoke/MethodHandle" ∧ y.cls ≠ "java/lang/invoke/VarHandle")
    (eT : T.heap = h) (argsL rest : List Value) (hM : own_C l Z y bytes mx ret [] rm argsL.toArray h (own_Q n0 P)) (W : Nat) (hf : rm.frames + 1 ≤ R.frames) (hlo : W + (mx + 11) + rm.locals ≤ R.locals) (hW : (rest.map fun v => v.category).sum ≤ W) (hc : cells + rm.cells ≤ R.cells) (hs : slots + rm.slots ≤ R.slots)
    {S : List Value} (hsize : Ls.size = c.maxLocals) (hlen : ∀ sig, parseMethodDescriptor y.desc = some sig → argsL.length = sig.parameters.length) (hS : S = argsL.reverse ++ rest) (hd : decode c.code pc = .ok (.invokestatic index, 3))
    (k : ∀ (T' : State) (v : Option Value), own_S p l e R s m args below meth c n0 T' (cells + rm.cells) (slots + rm.slots) → P v T'.heap → own_G p e below Fi T' (mkF m (pc + 3) Ls (v.toList ++ rest))) :
    own_G p e below Fi T (mkF m pc Ls S) := by
  obtain ⟨locs, Y, N⟩ := X
  exact own_callS Y hx hZ hown w1 w2 w3 w4 hy eT argsL rest hM W hf hlo hW hc hs hsize hlen hS hd fun T' v L Y' hq => k T' v ⟨_, Y', N.app hq.1⟩ hq.2
theorem own_S.callP (X : own_S p l e R s m args below meth c n0 T cells slots) (hx : p.tables.exec = Jvm.exec) (hZ : Z.Warmed39 s.vm) {own : String} {index : Nat} {y : MethodName} {bytes : ByteArray} {mx : Nat} {ret : Option FieldType} {fr lo : Nat} {r : Value}
    (hown : s.vm.findClass own = some m.cls) (w1 : (Jvm.Cond.methodLink own index y).before a0 Z = true) (w2 : (Jvm.Cond.static y).before a0 Z = true) (w3 : (Jvm.Cond.initialized y.cls).before a0 Z = true) (w4 : (Jvm.Cond.code y bytes mx ret).before a0 Z = true) (hy : y.cls ≠ "java/lang/invoke/MethodHandle" ∧ y.cls ≠ "java/lang/invoke/VarHandle")
    (eT : T.heap = h) (argsL rest : List Value) (hM : own_C l Z y bytes mx ret [] { frames := fr, cells := 0, slots := 0, locals := lo } argsL.toArray h (own_P r h)) (W : Nat) (hf : fr + 1 ≤ R.frames) (hlo : W + (mx + 11) + lo ≤ R.locals) (hW : (rest.map fun v => v.category).sum ≤ W) (hc : cells ≤ R.cells) (hs : slots ≤ R.slots)
    {S : List Value} (hsize : Ls.size = c.maxLocals) (hlen : ∀ sig, parseMethodDescriptor y.desc = some sig → argsL.length = sig.parameters.length) (hS : S = argsL.reverse ++ rest) (hd : decode c.code pc = .ok (.invokestatic index, 3))
    (k : ∀ (T' : State), own_S p l e R s m args below meth c n0 T' cells slots → T'.heap = h → own_G p e below Fi T' (mkF m (pc + 3) Ls (r :: rest))) :
    own_G p e below Fi T (mkF m pc Ls S) := by
  obtain ⟨locs, Y, N⟩ := X
  exact own_callP Y hx hZ hown w1 w2 w3 w4 hy eT argsL rest hM W hf hlo hW hc hs hsize hlen hS hd fun T' Y' e' => k T' ⟨_, Y', N⟩ e'
theorem own_S.callI (X : own_S p l e R s m args below meth c n0 T cells slots) (hx : p.tables.exec = Jvm.exec) (hZ : Z.Warmed39 s.vm) {own : String} {index : Nat} {y : MethodName} {bytes : ByteArray} {mx : Nat} {rm : Room} {P : Option Value → Heap → Prop} (hy1 : y.name = "<init>")
    (hown : s.vm.findClass own = some m.cls) (w1 : (Jvm.Cond.methodLink own index y).before a0 Z = true) (w2 : (Jvm.Cond.instanceMethod y).before a0 Z = true) (w3 : (Jvm.Cond.initialized y.cls).before a0 Z = true) (w4 : (Jvm.Cond.code y bytes mx none).before a0 Z = true) (hy : y.cls ≠ "java/lang/invoke/MethodHandle" ∧ y.cls ≠ "java/lang/invoke/VarHandle")
    (eT : T.heap = h) (a : Addr) (argsL rest : List Value) (hM : own_C l Z y bytes mx none [] rm (.ref a :: argsL).toArray h (own_Q n0 P)) (W : Nat) (hf : rm.frames + 1 ≤ R.frames) (hlo : W + (mx + 11) + rm.locals ≤ R.locals) (hW : (rest.map fun v => v.category).sum ≤ W) (hc : cells + rm.cells ≤ R.cells) (hs : slots + rm.slots ≤ R.slots)
    {S : List Value} (hsize : Ls.size = c.maxLocals) (hlen : ∀ sig, parseMethodDescriptor y.desc = some sig → argsL.length = sig.parameters.length) (hS : S = argsL.reverse ++ .ref a :: rest) (hd : decode c.code pc = .ok (.invokespecial index, 3))
    (k : ∀ (T' : State) (v : Option Value), own_S p l e R s m args below meth c n0 T' (cells + rm.cells) (slots + rm.slots) → P v T'.heap → own_G p e below Fi T' (mkF m (pc + 3) Ls (v.toList ++ rest))) :
    own_G p e below Fi T (mkF m pc Ls S) := by
  obtain ⟨locs, Y, N⟩ := X
  exact own_callI Y hx hZ hy1 hown w1 w2 w3 w4 hy eT a argsL rest hM W hf hlo hW hc hs hsize hlen hS hd fun T' v L Y' hq => k T' v ⟨_, Y', N.app hq.1⟩ hq.2
theorem own_S.callV (X : own_S p l e R s m args below meth c n0 T cells slots) (hx : p.tables.exec = Jvm.exec) (hZ : Z.Warmed39 s.vm) {own C : String} {index : Nat} {y : MethodName} {bytes : ByteArray} {mx : Nat} {ret : Option FieldType} {rm : Room} {P : Option Value → Heap → Prop}
    (hown : s.vm.findClass own = some m.cls) (w1 : (Jvm.Cond.methodLink own index y).before a0 Z = true) (w5 : (Jvm.Cond.declares y).before a0 Z = true) (w6 : (Jvm.Cond.selects C y y).before a0 Z = true) (w2 : (Jvm.Cond.instanceMethod y).before a0 Z = true) (w3 : (Jvm.Cond.initialized y.cls).before a0 Z = true) (w4 : (Jvm.Cond.code y bytes mx ret).before a0 Z = true) (hy : y.cls ≠ "java/lang/invoke/MethodHandle" ∧ y.cls ≠ "java/lang/invoke/VarHandle")
    (eT : T.heap = h) {a : Addr} (E : Exa Z h a C) (argsL rest : List Value) (hM : own_C l Z y bytes mx ret [] rm (.ref a :: argsL).toArray h (own_Q n0 P)) (W : Nat) (hf : rm.frames + 1 ≤ R.frames) (hlo : W + (mx + 11) + rm.locals ≤ R.locals) (hW : (rest.map fun v => v.category).sum ≤ W) (hc : cells + rm.cells ≤ R.cells) (hs : slots + rm.slots ≤ R.slots)
    {S : List Value} (hsize : Ls.size = c.maxLocals) (hlen : ∀ sig, parseMethodDescriptor y.desc = some sig → argsL.length = sig.parameters.length) (hS : S = argsL.reverse ++ .ref a :: rest) (hd : decode c.code pc = .ok (.invokevirtual index, 3))
    (k : ∀ (T' : State) (v : Option Value), own_S p l e R s m args below meth c n0 T' (cells + rm.cells) (slots + rm.slots) → P v T'.heap → own_G p e below Fi T' (mkF m (pc + 3) Ls (v.toList ++ rest))) :
    own_G p e below Fi T (mkF m pc Ls S) := by
  obtain ⟨locs, Y, N⟩ := X
  exact own_callV Y hx hZ hown w1 w5 w6 w2 w3 w4 hy eT E argsL rest hM W hf hlo hW hc hs hsize hlen hS hd fun T' v L Y' hq => k T' v ⟨_, Y', N.app hq.1⟩ hq.2
end OwnHeap
section OwnPriv
variable {p : Program} {l : Launch} {e : Env} {R : Room} {s : State} {m : MethodId} {args : Array Value} {below : List Frame} {meth : Method} {c : Code} {T T' : State} {locs : List Loc} {cells slots n0 n : Nat} {Q : Option Value → Heap → List Loc → Prop} {kc ks : Nat} {Z : State} {a0 : Array Value} {h h' h0 : Heap} {a b : Addr} {pc : Nat} {Ls : Array Slot} {rest : List Value} {Fi : State → Prop} {kk : Nat} {vm0 : Vm} {k0 : Nat}
/-- a private instance method's call by invokevirtual -/
theorem own_S.callR (X : own_S p l e R s m args below meth c n0 T cells slots) (hx : p.tables.exec = Jvm.exec) (hZ : Z.Warmed39 s.vm) {own : String} {index ni : Nat} {y : MethodName} {bytes : ByteArray} {mx : Nat} {ret : Option FieldType} {rm : Room} {P : Option Value → Heap → Prop}
    (hown : s.vm.findClass own = some m.cls) (w1 : (Jvm.Cond.methodLink own index y).before a0 Z = true) (w5 : (Jvm.Cond.instantiable y.cls ni).before a0 Z = true) (w6 : (Jvm.Cond.privateMethod y).before a0 Z = true) (w2 : (Jvm.Cond.instanceMethod y).before a0 Z = true) (w3 : (Jvm.Cond.initialized y.cls).before a0 Z = true) (w4 : (Jvm.Cond.code y bytes mx ret).before a0 Z = true) (hy : y.cls ≠ "java/lang/invoke/MethodHandle" ∧ y.cls ≠ "java/lang/invoke/VarHandle")
    (eT : T.heap = h) {a : Addr} {C : String} (E : Exa Z h a C) (argsL rest : List Value) (hM : own_C l Z y bytes mx ret [] rm (.ref a :: argsL).toArray h (own_Q n0 P)) (W : Nat) (hf : rm.frames + 1 ≤ R.frames) (hlo : W + (mx + 11) + rm.locals ≤ R.locals) (hW : (rest.map fun v => v.category).sum ≤ W) (hc : cells + rm.cells ≤ R.cells) (hs : slots + rm.slots ≤ R.slots)
    {S : List Value} (hsize : Ls.size = c.maxLocals) (hlen : ∀ sig, parseMethodDescriptor y.desc = some sig → argsL.length = sig.parameters.length) (hS : S = argsL.reverse ++ .ref a :: rest) (hd : decode c.code pc = .ok (.invokevirtual index, 3))
    (k : ∀ (T' : State) (v : Option Value), own_S p l e R s m args below meth c n0 T' (cells + rm.cells) (slots + rm.slots) → P v T'.heap → own_G p e below Fi T' (mkF m (pc + 3) Ls (v.toList ++ rest))) :
    own_G p e below Fi T (mkF m pc Ls S) := by
  obtain ⟨locs, Y, N⟩ := X
  obtain ⟨cq, q1', q2'⟩ := E.cell
  have hpr : (Jvm.Cond.privateMethod y).before args s = true := mvP hZ w6
  have hin : (Jvm.Cond.instanceMethod y).before args s = true := mvT hZ w2
  have hsel : (Jvm.Cond.selects y.cls y y).before args s = true := Jvm.Kit.selects_private hy (mvT hZ w5) hpr hin
  obtain ⟨v, _, ⟨T', L', k', n'⟩, -, X', ⟨L, hQ, q1, q2, q3⟩, st⟩ := Y.privateBack hx (y := y) hown (mvT hZ w1) hin hsel (Jvm.Cond.privateMethod_at hpr) (mvT hZ w4) hy (backOf (W := W) hM hZ w4 w3 hf hlo) (g := mkF m pc Ls S) rfl hsize (Steps.refl _) (a := a) (by rw [eT]; exact q1') q2' (argsL := argsL) (rest := rest) hlen hS (by show 2 * 0 + _ ≤ _; omega) hd (fun _ _ => ⟨rfl, eT, hc, hs⟩)
  dsimp only [Pt.U, Pt.locs, Pt.cells, Pt.slots] at X' q1 q2 q3 st hQ
  subst q1 q2 q3
  exact own_go _ (fun t kt => st.trans kt) (k T' v ⟨_, X', N.app hQ.1⟩ hQ.2)
end OwnPriv
section OwnWide
variable {p : Program} {l : Launch} {e : Env} {R : Room} {s : State} {m : MethodId} {args : Array Value} {below : List Frame} {meth : Method} {c : Code} {T T' : State} {cells slots n0 : Nat} {kc ks : Nat} {g : JFrame} {Z : State} {a0 : Array Value} {h h' h0 : Heap} {a b : Addr} {pc : Nat} {Ls : Array Slot} {rest : List Value} {Fi : State → Prop} {kk : Nat} {vm0 : Vm} {k0 : Nat}
/-- a String constant, by ldc: the walk's start is rebased -/
theorem own_S.ldcS (X : own_S p l e R (s.setVm vm0) m args below meth c n0 T cells slots) (hx : p.tables.exec = Jvm.exec) (hZ : Z.Warmed39 (s.setVm vm0).vm) {own text : String} {index : Nat} (hown : (s.setVm vm0).vm.findClass own = some m.cls) (w : (Jvm.Cond.stringLink own index text).before a0 Z = true) (wS : ∀ a ∈ Bundle.stringAtoms, a.before a0 Z = true)
    (eT : T.heap = h) (hS : s.Since vm0 k0) (hk : k0 ≤ h.size) (n : Nat) (hn : 4 * text.toList.length ≤ n) (hbig : n ≤ 536870912) (hc : cells + 2 ≤ R.cells) (hl : slots + (n + 4) ≤ R.slots) (hd : decode c.code pc = .ok (.ldc index, 2))
    (k : ∀ (T' : State) (h' : Heap) (vm1 : Vm) (k1 : Nat) (a : Addr), own_S p l e R (s.setVm vm1) m args below meth c n0 T' (cells + 2) (slots + (n + 4)) → T'.heap = h' → Ext h h' → s.Since vm1 k1 → k1 ≤ h'.size → Z.Warmed39 (s.setVm vm1).vm → (s.setVm vm1).vm.findClass own = some m.cls → own_G p e below Fi T' (mkF m (pc + 2) Ls (.ref a :: rest))) :
    own_G p e below Fi T (mkF m pc Ls rest) := by
  obtain ⟨locs, Y, N⟩ := X
  obtain ⟨a, T', h', k1, Y', e', E, hS', hk', hZ', hown', st⟩ := Jvm.RoadKit.ldcS Y hx hZ hown w wS eT hS hk (g := mkF m pc Ls rest) rfl hd hn hbig hc hl
  exact own_go _ st (k T' h' _ k1 a ⟨locs, Y', N⟩ e' E hS' hk' hZ' hown')
/-- a static call of a method that may intern -/
theorem own_S.callSW (X : own_S p l e R (s.setVm vm0) m args below meth c n0 T cells slots) (hx : p.tables.exec = Jvm.exec) (hZ : Z.Warmed39 (s.setVm vm0).vm) {own : String} {index : Nat} {y : MethodName} {bytes : ByteArray} {mx : Nat} {ret : Option FieldType} {rm : Room} {P : Option Value → Heap → Prop}
    (hown : (s.setVm vm0).vm.findClass own = some m.cls) (w1 : (Jvm.Cond.methodLink own index y).before a0 Z = true) (w2 : (Jvm.Cond.static y).before a0 Z = true) (w3 : (Jvm.Cond.initialized y.cls).before a0 Z = true) (w4 : (Jvm.Cond.code y bytes mx ret).before a0 Z = true) (hy : y.cls ≠ "java/lang/invoke/MethodHandle" ∧ y.cls ≠ "java/lang/invoke/VarHandle")
    (eT : T.heap = h) (hS : s.Since vm0 k0) (hk : k0 ≤ h.size) (argsL rest : List Value) (hM : own_CW l Z y bytes mx ret [] rm argsL.toArray h (own_Q n0 P)) (W : Nat) (hf : rm.frames + 1 ≤ R.frames) (hlo : W + (mx + 11) + rm.locals ≤ R.locals) (hW : (rest.map fun v => v.category).sum ≤ W) (hc : cells + rm.cells ≤ R.cells) (hs : slots + rm.slots ≤ R.slots)
    {S : List Value} (hsize : Ls.size = c.maxLocals) (hlen : ∀ sig, parseMethodDescriptor y.desc = some sig → argsL.length = sig.parameters.length) (hSt : S = argsL.reverse ++ rest) (hd : decode c.code pc = .ok (.invokestatic index, 3))
    (k : ∀ (T' : State) (v : Option Value) (vm1 : Vm) (k1 : Nat), own_S p l e R (s.setVm vm1) m args below meth c n0 T' (cells + rm.cells) (slots + rm.slots) → P v T'.heap → s.Since vm1 k1 → k1 ≤ T'.heap.size → Z.Warmed39 (s.setVm vm1).vm → (s.setVm vm1).vm.findClass own = some m.cls → own_G p e below Fi T' (mkF m (pc + 3) Ls (v.toList ++ rest))) :
    own_G p e below Fi T (mkF m pc Ls S) := by
  obtain ⟨locs, Y, N⟩ := X
  subst eT
  obtain ⟨v, _, ⟨T', L', k', n'⟩, -, X', hS', hg, ⟨L, hQ, q1, q2, q3⟩, st⟩ := Jvm.RoadKit.callSS Y hx (y := y) hown (mvT hZ w1) (mvT hZ w2) (mvT hZ w3) (mvT hZ w4) hy (Jvm.RoadKit.backOfS (W := W) hM hZ w4 w3 hf hlo) (g := mkF m pc Ls S) rfl hsize (argsL := argsL) (rest := rest) hlen hSt (by show 2 * 0 + _ ≤ _; omega) hd (fun _ _ => ⟨rfl, rfl, hc, hs⟩)
  dsimp only [Pt.U, Pt.locs, Pt.cells, Pt.slots] at X' q1 q2 q3 st hQ hS' hg
  subst q1 q2 q3
  exact own_go _ (fun t kt => st.trans kt) (k T' v T'.vm _ ⟨_, X', N.app hQ.1⟩ hQ.2 (hS.trans hS' (Nat.le_trans hk hg)) (Nat.le_refl _) (State.Warmed39.trans (t := s.setVm vm0) hZ hS'.1) (by rw [show (s.setVm T'.vm).vm = T'.vm from rfl, hS'.1.alike.findClass]; exact hown))
/-- a constructor's call that may intern -/
theorem own_S.callIW (X : own_S p l e R (s.setVm vm0) m args below meth c n0 T cells slots) (hx : p.tables.exec = Jvm.exec) (hZ : Z.Warmed39 (s.setVm vm0).vm) {own : String} {index : Nat} {y : MethodName} {bytes : ByteArray} {mx : Nat} {rm : Room} {P : Option Value → Heap → Prop} (hy1 : y.name = "<init>")
    (hown : (s.setVm vm0).vm.findClass own = some m.cls) (w1 : (Jvm.Cond.methodLink own index y).before a0 Z = true) (w2 : (Jvm.Cond.instanceMethod y).before a0 Z = true) (w3 : (Jvm.Cond.initialized y.cls).before a0 Z = true) (w4 : (Jvm.Cond.code y bytes mx none).before a0 Z = true) (hy : y.cls ≠ "java/lang/invoke/MethodHandle" ∧ y.cls ≠ "java/lang/invoke/VarHandle")
    (eT : T.heap = h) (hS : s.Since vm0 k0) (hk : k0 ≤ h.size) (a : Addr) (argsL rest : List Value) (hM : own_CW l Z y bytes mx none [] rm (.ref a :: argsL).toArray h (own_Q n0 P)) (W : Nat) (hf : rm.frames + 1 ≤ R.frames) (hlo : W + (mx + 11) + rm.locals ≤ R.locals) (hW : (rest.map fun v => v.category).sum ≤ W) (hc : cells + rm.cells ≤ R.cells) (hs : slots + rm.slots ≤ R.slots)
    {S : List Value} (hsize : Ls.size = c.maxLocals) (hlen : ∀ sig, parseMethodDescriptor y.desc = some sig → argsL.length = sig.parameters.length) (hSt : S = argsL.reverse ++ .ref a :: rest) (hd : decode c.code pc = .ok (.invokespecial index, 3))
    (k : ∀ (T' : State) (v : Option Value) (vm1 : Vm) (k1 : Nat), own_S p l e R (s.setVm vm1) m args below meth c n0 T' (cells + rm.cells) (slots + rm.slots) → P v T'.heap → s.Since vm1 k1 → k1 ≤ T'.heap.size → Z.Warmed39 (s.setVm vm1).vm → (s.setVm vm1).vm.findClass own = some m.cls → own_G p e below Fi T' (mkF m (pc + 3) Ls (v.toList ++ rest))) :
    own_G p e below Fi T (mkF m pc Ls S) := by
  obtain ⟨locs, Y, N⟩ := X
  subst eT
  obtain ⟨v, _, ⟨T', L', k', n'⟩, -, X', hS', hg, ⟨L, hQ, q1, q2, q3⟩, st⟩ := Y.specialBackS hx (y := y) hy1 hown (mvT hZ w1) (mvT hZ w2) (mvT hZ w4) hy (Jvm.RoadKit.backOfS (W := W) hM hZ w4 w3 hf hlo) (g := mkF m pc Ls S) rfl hsize (Steps.refl _) (a := a) (argsL := argsL) (rest := rest) hlen hSt (by show 2 * 0 + _ ≤ _; omega) hd (fun _ _ => ⟨rfl, rfl, hc, hs⟩)
  dsimp only [Pt.U, Pt.locs, Pt.cells, Pt.slots] at X' q1 q2 q3 st hQ hS' hg
  subst q1 q2 q3
  exact own_go _ (fun t kt => st.trans kt) (k T' v T'.vm _ ⟨_, X', N.app hQ.1⟩ hQ.2 (hS.trans hS' (Nat.le_trans hk hg)) (Nat.le_refl _) (State.Warmed39.trans (t := s.setVm vm0) hZ hS'.1) (by rw [show (s.setVm T'.vm).vm = T'.vm from rfl, hS'.1.alike.findClass]; exact hown))
end OwnWide
section OwnLongs
variable {p : Program} {l : Launch} {e : Env} {R : Room} {s : State} {m : MethodId} {args : Array Value} {below : List Frame} {meth : Method} {c : Code} {T T' : State} {cells slots n0 n : Nat} {g : JFrame} {Z : State} {a0 : Array Value} {h h' h0 : Heap} {a b : Addr} {v w : Value} {sl pc : Nat} {Ls : Array Slot} {rest : List Value} {Fi : State → Prop} {f : Nat → Int64}
/-- a long[] of n places by the function of what it holds -/
def own_L (Z : State) (h : Heap) (a : Addr) (n : Nat) (f : Nat → Int64) : Prop := ∃ cl : Cell, Arr Z h a cl .long ∧ cl.slots.size = n ∧ n < 2 ^ 31 ∧ ∀ k, k < n → cl.slots[k]? = some (.long (f k))
theorem own_L.lt (A : own_L Z h a n f) : a < h.size := A.elim fun _ q => q.1.lt
theorem own_L.ext (A : own_L Z h a n f) (E : Ext h h') : own_L Z h' a n f := A.elim fun cl q => ⟨cl, q.1.ext E, q.2⟩
theorem own_L.other (A : own_L Z h b n f) (W : Wr h h' a sl v) (q : b ≠ a) : own_L Z h' b n f := A.elim fun cl r => ⟨cl, r.1.other W q, r.2⟩
theorem own_L.keep {ws : List Addr} (A : own_L Z h a n f) (K : Keep h h' ws) (q : a ∉ ws) : own_L Z h' a n f := A.elim fun cl r => ⟨cl, ⟨K.2.1 a cl r.1.1 q, r.1.2⟩, r.2⟩
theorem own_L.new (A : own_A Z h .long a (List.replicate n (.long 0))) : own_L Z h a n (fun _ => 0) := by
  obtain ⟨cl, A, q1, q2⟩ := A
  rw [List.length_replicate] at q2
  refine ⟨cl, A, by rw [q1]; simp, q2, fun k hk => by rw [q1]; simp [hk]⟩
/-- the function with one place changed -/
def own_up (f : Nat → Int64) (i : Nat) (x : Int64) : Nat → Int64 := fun k => if k = i then x else f k
theorem own_L.set (A : own_L Z h a n f) {i : Nat} {x : Int64} (W : Wr h h' a i (.long x)) : own_L Z h' a n (own_up f i x) := by
  obtain ⟨cl, A, q1, q2, q3⟩ := A
  refine ⟨_, A.same W, by rw [sz_set]; exact q1, q2, fun k hk => ?_⟩
  unfold own_up
  by_cases u : k = i
  · subst u; rw [if_pos rfl]; simp [Cell.setSlot, q1, hk]
  · rw [if_neg u]
    simp only [Cell.setSlot]; rw [Array.getElem?_setIfInBounds_ne (Ne.symm u)]; exact q3 k hk
theorem own_inL {cl : Cell} (q1 : cl.slots.size = n) {j : Int32} {i : Nat} (hj : j.toInt = i) (hi : i < n) : ¬ (j < 0 ∨ cl.slots.size ≤ j.toNatClampNeg) := by
  obtain ⟨c1, c2⟩ := own_clamp hj
  rw [q1, c1]; intro r
  rcases r with r | r
  · exact c2 r
  · omega
theorem own_S.ldJf (X : own_S p l e R s m args below meth c n0 T cells slots) (hx : p.tables.exec = Jvm.exec) (hZ : Z.Warmed39 s.vm) (eT : T.heap = h) (A : own_L Z h a n f) {j : Int32} (i : Nat) (hj : j.toInt = i) (hi : i < n) (hd : decode c.code pc = .ok (.laload, 1))
    (k : own_G p e below Fi T (mkF m (pc + 1) Ls (.long (f i) :: rest))) : own_G p e below Fi T (mkF m pc Ls (.int j :: .ref a :: rest)) := by
  obtain ⟨locs, Y, N⟩ := X
  obtain ⟨cl, A, q1, q2, q3⟩ := A
  refine own_go _ (fun t kt => Y.laload hx (j := j) (v := .long (f i)) (by rw [eT]; exact A.1) (State.isArrayOf_alike hZ.alike A.2.1) A.2.2 (own_inL q1 hj hi) (by rw [(own_clamp hj).1]; exact q3 i hi) (g := mkF m pc Ls (.int j :: .ref a :: rest)) rfl rfl hd t kt) k
theorem own_S.stJf (X : own_S p l e R s m args below meth c n0 T cells slots) (hx : p.tables.exec = Jvm.exec) (hZ : Z.Warmed39 s.vm) (eT : T.heap = h) (A : own_L Z h a n f) (g0 : n0 ≤ a) {j : Int32} {x : Int64} (i : Nat) (hj : j.toInt = i) (hi : i < n) (hd : decode c.code pc = .ok (.lastore, 1))
    (k : ∀ T' h', own_S p l e R s m args below meth c n0 T' cells slots → T'.heap = h' → Wr h h' a i (.long x) → own_L Z h' a n (own_up f i x) → own_G p e below Fi T' (mkF m (pc + 1) Ls rest)) : own_G p e below Fi T (mkF m pc Ls (.long x :: .int j :: .ref a :: rest)) := by
  obtain ⟨locs, Y, N⟩ := X
  have A' := A
  obtain ⟨cl, A, q1, q2, q3⟩ := A
  obtain ⟨T', h', Y', e', W, st⟩ := Jvm.RoadKit.stJ Y hx hZ eT A (j := j) (x := x) (own_inL q1 hj hi) (g := mkF m pc Ls (.long x :: .int j :: .ref a :: rest)) rfl rfl hd
  rw [(own_clamp hj).1] at W
  exact own_go _ st (k T' h' ⟨_, Y', Fr.snoc Y' N g0⟩ e' W (A'.set W))
end OwnLongs
theorem own_pd0 : parseMethodDescriptor "(JLjava/lang/String;)I" = some ⟨[.long, (.object "java/lang/String")], some .int⟩ := by decide +kernel
theorem own_pd1 : parseMethodDescriptor "(II)I" = some ⟨[.int, .int], some .int⟩ := by decide +kernel
theorem own_pd2 : parseMethodDescriptor "(I)V" = some ⟨[.int], none⟩ := by decide +kernel
theorem own_pd3 : parseMethodDescriptor "(II)[J" = some ⟨[.int, .int], some (.array .long)⟩ := by decide +kernel
theorem own_pd4 : parseMethodDescriptor "(II)V" = some ⟨[.int, .int], none⟩ := by decide +kernel
theorem own_pd5 : parseMethodDescriptor "(IJ)V" = some ⟨[.int, .long], none⟩ := by decide +kernel
theorem own_pd6 : parseMethodDescriptor "(I)J" = some ⟨[.int], some .long⟩ := by decide +kernel
theorem own_sat {Z : State} {a0 : Array Value} (hw : ∀ d ∈ tables_1, d.before a0 Z = true) : ∀ a ∈ Bundle.stringAtoms, a.before a0 Z = true := by
  intro a ha
  simp only [Bundle.stringAtoms, List.mem_cons, List.not_mem_nil, or_false] at ha
  rcases ha with rfl | rfl | rfl | rfl | rfl | rfl | rfl
  · exact (hw _ (List.mem_of_getElem? (i := 29) rfl))
  · exact (hw _ (List.mem_of_getElem? (i := 30) rfl))
  · exact (hw _ (List.mem_of_getElem? (i := 31) rfl))
  · exact (hw _ (List.mem_of_getElem? (i := 32) rfl))
  · exact (hw _ (List.mem_of_getElem? (i := 33) rfl))
  · exact (hw _ (List.mem_of_getElem? (i := 34) rfl))
  · exact (hw _ (List.mem_of_getElem? (i := 35) rfl))

/-- what set leaves in the words, what get reads from them -/
def own_off (x wd : Int32) : Int32 := (x.toInt64 * wd.toInt64).toInt32 &&& (63 : Int32)
def own_s0 (f : Nat → Int64) (W : Nat) (o : Int32) (mk v : Int64) : Int64 := ((f W) &&& ((mk <<< (o &&& 0x3f).toInt64) ^^^ (-1 : Int64))) ||| (v <<< (o &&& 0x3f).toInt64)
def own_s1 (f : Nat → Int64) (W : Nat) (o : Int32) (mk v : Int64) : Int64 := ((f W) &&& (((((mk.toUInt64 >>> ((1 : Int32) &&& 0x3f).toInt64.toUInt64).toInt64).toUInt64 >>> (((63 : Int32) - o) &&& 0x3f).toInt64.toUInt64).toInt64) ^^^ (-1 : Int64))) ||| ((((v.toUInt64 >>> ((1 : Int32) &&& 0x3f).toInt64.toUInt64).toInt64).toUInt64 >>> (((63 : Int32) - o) &&& 0x3f).toInt64.toUInt64).toInt64)
def own_setf (f : Nat → Int64) (W : Nat) (o : Int32) (mk v : Int64) : Nat → Int64 := own_up (own_up f W (own_s0 f W o mk v)) (W + 1) (own_s1 (own_up f W (own_s0 f W o mk v)) (W + 1) o mk v)
def own_getf (f : Nat → Int64) (W : Nat) (o : Int32) (mk : Int64) : Int64 := ((((f W).toUInt64 >>> (o &&& 0x3f).toInt64.toUInt64).toInt64) ||| (((f (W + 1)) <<< ((1 : Int32) &&& 0x3f).toInt64) <<< (((63 : Int32) - o) &&& 0x3f).toInt64)) &&& mk
theorem own_and63 {o : Int32} {O : Nat} (h : o.toInt = O) (hO : O < 64) : (o &&& 0x3f).toInt64 = Int64.ofNat O := by
  have : o = Int32.ofNat O := by
    apply Int32.toInt_inj.mp; rw [h, Int32.toInt_ofNat_of_lt (by omega)]
  subst this
  have : ∀ k : Fin 64, (Int32.ofNat k.1 &&& 0x3f).toInt64 = Int64.ofNat k.1 := by decide
  exact this ⟨O, hO⟩
theorem own_shlB (x : Int64) {o : Int32} {O : Nat} (h : o.toInt = O) (hO : O < 64) : (x <<< (o &&& 0x3f).toInt64).toBitVec = x.toBitVec <<< O := by
  rw [own_and63 h hO]
  rw [Int64.toBitVec_shiftLeft]
  have : ∀ k : Fin 64, ((Int64.ofNat k.1).toBitVec.smod 64) = BitVec.ofNat 64 k.1 := by decide
  rw [this ⟨O, hO⟩]
  show x.toBitVec <<< (BitVec.ofNat 64 O).toNat = _
  rw [BitVec.toNat_ofNat, Nat.mod_eq_of_lt (by omega)]
theorem own_shrB (x : Int64) {o : Int32} {O : Nat} (h : o.toInt = O) (hO : O < 64) : ((x.toUInt64 >>> (o &&& 0x3f).toInt64.toUInt64).toInt64).toBitVec = x.toBitVec >>> O := by
  rw [own_and63 h hO]
  show (x.toUInt64 >>> (Int64.ofNat O).toUInt64).toBitVec = _
  rw [UInt64.toBitVec_shiftRight]
  have : ∀ k : Fin 64, ((Int64.ofNat k.1).toUInt64.toBitVec % 64) = BitVec.ofNat 64 k.1 := by decide
  rw [this ⟨O, hO⟩]
  show x.toBitVec >>> (BitVec.ofNat 64 O).toNat = _
  rw [BitVec.toNat_ofNat, Nat.mod_eq_of_lt (by omega)]
/-- bit q of the row of words -/
def own_bit (f : Nat → Int64) (q : Nat) : Bool := (f (q / 64)).toBitVec.getLsbD (q % 64)
def own_mk (wd : Int32) : Int64 := ((1 : Int64) <<< (wd &&& 0x3f).toInt64) - (1 : Int64)
theorem own_mkB {wd : Int32} {D : Nat} (h : wd.toInt = D) (hD : D < 64) (j : Nat) : (own_mk wd).toBitVec.getLsbD j = decide (j < D) := by
  have e : (own_mk wd).toBitVec = BitVec.ofNat 64 (2 ^ D - 1) := by
    unfold own_mk
    rw [Int64.toBitVec_sub, own_shlB _ h hD]
    have : ∀ k : Fin 64, ((1 : Int64).toBitVec <<< k.1) - (1 : Int64).toBitVec = BitVec.ofNat 64 (2 ^ k.1 - 1) := by decide
    exact this ⟨D, hD⟩
  rw [e, BitVec.getLsbD_ofNat, Nat.testBit_two_pow_sub_one]
  by_cases q : j < D
  · simp [q]; omega
  · simp [q]
theorem own_sub63 {o : Int32} {O : Nat} (h : o.toInt = O) (hO : O < 64) : ((63 : Int32) - o).toInt = ((63 - O : Nat) : Int) := by
  have : o = Int32.ofNat O := by
    apply Int32.toInt_inj.mp; rw [h, Int32.toInt_ofNat_of_lt (by omega)]
  subst this
  have : ∀ k : Fin 64, ((63 : Int32) - Int32.ofNat k.1).toInt = ((63 - k.1 : Nat) : Int) := by decide
  exact this ⟨O, hO⟩
theorem own_n1 : (-1 : Int64).toBitVec = BitVec.allOnes 64 := rfl
theorem own_s0B {f : Nat → Int64} {W : Nat} {o : Int32} {O D : Nat} {mk v : Int64} (ho : o.toInt = O) (hO : O < 64) (hm : ∀ j, mk.toBitVec.getLsbD j = decide (j < D)) (hv : ∀ j, D ≤ j → v.toBitVec.getLsbD j = false) (b : Nat) (hb : b < 64) :
    (own_s0 f W o mk v).toBitVec.getLsbD b = if O ≤ b ∧ b - O < D then v.toBitVec.getLsbD (b - O) else (f W).toBitVec.getLsbD b := by
  unfold own_s0
  rw [Int64.toBitVec_or, Int64.toBitVec_and, Int64.toBitVec_xor, own_shlB _ ho hO, own_shlB _ ho hO, own_n1]
  simp only [BitVec.getLsbD_or, BitVec.getLsbD_and, BitVec.getLsbD_xor, BitVec.getLsbD_shiftLeft, BitVec.getLsbD_allOnes, hm, hb, decide_true, Bool.true_and]
  by_cases q : O ≤ b
  · by_cases r : b - O < D
    · simp [q, r, show ¬ b < O by omega]
    · simp [q, r, show ¬ b < O by omega, hv _ (by omega : D ≤ b - O)]
  · simp [q, show b < O by omega]
theorem own_one63 : ((1 : Int32)).toInt = ((1 : Nat) : Int) := rfl
theorem own_s1B {f : Nat → Int64} {W : Nat} {o : Int32} {O D : Nat} {mk v : Int64} (ho : o.toInt = O) (hO : O < 64) (hm : ∀ j, mk.toBitVec.getLsbD j = decide (j < D)) (hv : ∀ j, D ≤ j → v.toBitVec.getLsbD j = false) (b : Nat) (hb : b < 64) :
    (own_s1 f W o mk v).toBitVec.getLsbD b = if b + 64 < O + D then v.toBitVec.getLsbD (b + 64 - O) else (f W).toBitVec.getLsbD b := by
  unfold own_s1
  rw [Int64.toBitVec_or, Int64.toBitVec_and, Int64.toBitVec_xor, own_shrB _ (own_sub63 ho hO) (by omega), own_shrB _ own_one63 (by omega), own_shrB _ (own_sub63 ho hO) (by omega), own_shrB _ own_one63 (by omega), own_n1]
  simp only [BitVec.getLsbD_or, BitVec.getLsbD_and, BitVec.getLsbD_xor, BitVec.getLsbD_ushiftRight, BitVec.getLsbD_allOnes, hm, hb, decide_true, Bool.true_and]
  rw [show 1 + (63 - O + b) = b + 64 - O by omega]
  by_cases r : b + 64 < O + D
  · simp [r, show b + 64 - O < D by omega]
  · simp [r, show ¬ b + 64 - O < D by omega, hv _ (by omega : D ≤ b + 64 - O)]
theorem own_setB {f : Nat → Int64} {o : Int32} {P D : Nat} {mk v : Int64} (ho : o.toInt = ((P % 64 : Nat) : Int)) (hD : D < 64) (hm : ∀ j, mk.toBitVec.getLsbD j = decide (j < D)) (hv : ∀ j, D ≤ j → v.toBitVec.getLsbD j = false) (q : Nat) :
    own_bit (own_setf f (P / 64) o mk v) q = if P ≤ q ∧ q < P + D then v.toBitVec.getLsbD (q - P) else own_bit f q := by
  have hO : P % 64 < 64 := by omega
  have hb : q % 64 < 64 := by omega
  unfold own_bit own_setf
  by_cases a : q / 64 = P / 64 + 1
  · rw [a]
    have : own_up (own_up f (P / 64) (own_s0 f (P / 64) o mk v)) (P / 64 + 1) (own_s1 (own_up f (P / 64) (own_s0 f (P / 64) o mk v)) (P / 64 + 1) o mk v) (P / 64 + 1) = own_s1 (own_up f (P / 64) (own_s0 f (P / 64) o mk v)) (P / 64 + 1) o mk v := if_pos rfl
    rw [this, own_s1B ho hO hm hv _ hb]
    have : own_up f (P / 64) (own_s0 f (P / 64) o mk v) (P / 64 + 1) = f (P / 64 + 1) := if_neg (by omega)
    rw [this]
    by_cases r : q < P + D
    · rw [if_pos (by omega), if_pos (by omega)]; congr 1; omega
    · rw [if_neg (by omega), if_neg (by omega)]
  · have : own_up (own_up f (P / 64) (own_s0 f (P / 64) o mk v)) (P / 64 + 1) (own_s1 (own_up f (P / 64) (own_s0 f (P / 64) o mk v)) (P / 64 + 1) o mk v) (q / 64) = own_up f (P / 64) (own_s0 f (P / 64) o mk v) (q / 64) := if_neg a
    rw [this]
    by_cases b : q / 64 = P / 64
    · rw [b]
      have : own_up f (P / 64) (own_s0 f (P / 64) o mk v) (P / 64) = own_s0 f (P / 64) o mk v := if_pos rfl
      rw [this, own_s0B ho hO hm hv _ hb]
      by_cases r : P ≤ q ∧ q < P + D
      · rw [if_pos (by omega), if_pos r]; congr 1; omega
      · rw [if_neg (by omega), if_neg r]
    · have : own_up f (P / 64) (own_s0 f (P / 64) o mk v) (q / 64) = f (q / 64) := if_neg b
      rw [this, if_neg (by omega)]
theorem own_getB {f : Nat → Int64} {o : Int32} {P D : Nat} {mk : Int64} (ho : o.toInt = ((P % 64 : Nat) : Int)) (hD : D < 64) (hm : ∀ j, mk.toBitVec.getLsbD j = decide (j < D)) (j : Nat) (hj : j < 64) :
    (own_getf f (P / 64) o mk).toBitVec.getLsbD j = (decide (j < D) && own_bit f (P + j)) := by
  have hO : P % 64 < 64 := by omega
  unfold own_getf own_bit
  rw [Int64.toBitVec_and, Int64.toBitVec_or, own_shrB _ ho hO, own_shlB _ (own_sub63 ho hO) (by omega), own_shlB _ own_one63 (by omega)]
  simp only [BitVec.getLsbD_or, BitVec.getLsbD_and, BitVec.getLsbD_shiftLeft, BitVec.getLsbD_ushiftRight, hm, hj, decide_true, Bool.true_and]
  by_cases r : j < D
  · simp only [r, decide_true, Bool.and_true, Bool.true_and]
    by_cases a : P % 64 + j < 64
    · rw [show (P + j) / 64 = P / 64 by omega, show (P + j) % 64 = P % 64 + j by omega]
      have : (!decide (j < 63 - P % 64) && (decide (j - (63 - P % 64) < 64) && !decide (j - (63 - P % 64) < 1) && (f (P / 64 + 1)).toBitVec.getLsbD (j - (63 - P % 64) - 1))) = false := by
        by_cases z : j < 63 - P % 64
        · simp [z]
        · simp [z, show j - (63 - P % 64) < 1 by omega]
      rw [this, Bool.or_false]
    · rw [show (P + j) / 64 = P / 64 + 1 by omega, show (P + j) % 64 = j - (63 - P % 64) - 1 by omega]
      rw [BitVec.getLsbD_of_ge (f (P / 64)).toBitVec _ (by omega)]
      simp [show ¬ j < 63 - P % 64 by omega, show ¬ (j - (63 - P % 64) < 1) by omega, show j - (63 - P % 64) < 64 by omega]
  · simp [r]

/-- get after set, at the same place and at another one -/
theorem own_gs1 {f : Nat → Int64} {o : Int32} {P D : Nat} {mk v : Int64} (ho : o.toInt = ((P % 64 : Nat) : Int)) (hD : D < 64) (hm : ∀ j, mk.toBitVec.getLsbD j = decide (j < D)) (hv : ∀ j, D ≤ j → v.toBitVec.getLsbD j = false) :
    own_getf (own_setf f (P / 64) o mk v) (P / 64) o mk = v := by
  apply Int64.toBitVec_inj.mp
  apply BitVec.eq_of_getLsbD_eq
  intro j hj
  rw [own_getB ho hD hm j hj, own_setB ho hD hm hv]
  by_cases r : j < D
  · rw [if_pos (by omega), show P + j - P = j by omega]; simp [r]
  · simp [r, hv j (by omega)]
theorem own_gs2 {f : Nat → Int64} {o o' : Int32} {P P' D : Nat} {mk v : Int64} (ho : o.toInt = ((P % 64 : Nat) : Int)) (ho' : o'.toInt = ((P' % 64 : Nat) : Int)) (hD : D < 64) (hm : ∀ j, mk.toBitVec.getLsbD j = decide (j < D)) (hv : ∀ j, D ≤ j → v.toBitVec.getLsbD j = false) (hne : P' + D ≤ P ∨ P + D ≤ P') :
    own_getf (own_setf f (P / 64) o mk v) (P' / 64) o' mk = own_getf f (P' / 64) o' mk := by
  apply Int64.toBitVec_inj.mp
  apply BitVec.eq_of_getLsbD_eq
  intro j hj
  rw [own_getB ho' hD hm j hj, own_getB ho' hD hm j hj, own_setB ho hD hm hv]
  by_cases r : j < D
  · rw [if_neg (by omega)]
  · simp [r]
theorem own_gs0 {o : Int32} {P D : Nat} {mk : Int64} (ho : o.toInt = ((P % 64 : Nat) : Int)) (hD : D < 64) (hm : ∀ j, mk.toBitVec.getLsbD j = decide (j < D)) : own_getf (fun _ => 0) (P / 64) o mk = 0 := by
  apply Int64.toBitVec_inj.mp
  apply BitVec.eq_of_getLsbD_eq
  intro j hj
  rw [own_getB ho hD hm j hj]
  show (decide (j < D) && (0 : Int64).toBitVec.getLsbD _) = (0 : Int64).toBitVec.getLsbD j
  rw [show (0 : Int64).toBitVec = 0#64 from rfl]; simp
theorem own_apart {X Y D : Nat} (h : X ≠ Y) : Y * D + D ≤ X * D ∨ X * D + D ≤ Y * D := by
  rcases Nat.lt_or_ge Y X with q | q
  · have := Nat.mul_le_mul_right D (show Y + 1 ≤ X by omega); rw [Nat.add_mul, Nat.one_mul] at this; exact Or.inl this
  · have := Nat.mul_le_mul_right D (show X + 1 ≤ Y by omega); rw [Nat.add_mul, Nat.one_mul] at this; exact Or.inr this
/-- the numbers of the law -/
theorem own_len (a : Int32) : ∃ N : Nat, ((4 : Int32) + (a &&& (127 : Int32))).toInt = N ∧ 4 ≤ N ∧ N ≤ 131 := by
  have q : (a &&& (127 : Int32)).toBitVec.toNat ≤ 127 := by
    rw [Int32.toBitVec_and, BitVec.toNat_and]; exact Nat.and_le_right
  have e1 : (a &&& (127 : Int32)).toInt = ((a &&& (127 : Int32)).toBitVec.toNat : Int) := by
    rw [← Int32.toInt_toBitVec, BitVec.toInt_eq_toNat_of_lt (by omega)]
  refine ⟨4 + (a &&& (127 : Int32)).toBitVec.toNat, ?_, by omega, by omega⟩
  rw [Int32.toInt_add, e1, show (4 : Int32).toInt = 4 from rfl, Int.bmod_eq_of_le (by omega) (by omega)]; omega
theorem own_wid (a : Int32) : ∃ N : Nat, (a &&& (63 : Int32)).toInt = N ∧ N < 64 := by
  have q : (a &&& (63 : Int32)).toBitVec.toNat ≤ 63 := by
    rw [Int32.toBitVec_and, BitVec.toNat_and]; exact Nat.and_le_right
  refine ⟨(a &&& (63 : Int32)).toBitVec.toNat, ?_, by omega⟩
  rw [← Int32.toInt_toBitVec, BitVec.toInt_eq_toNat_of_lt (by omega)]
theorem own_rem {x y : Int32} {X Y : Nat} (hx : x.toInt = X) (hy : y.toInt = Y) (hX : X < 2 ^ 31) (h0 : 0 < Y) (hY : Y < 2 ^ 31) : (x - (x / y) * y).toInt = ((X % Y : Nat) : Int) := by
  have d : (x / y).toInt = ((X / Y : Nat) : Int) := by
    rw [Int32.toInt_div, hx, hy, Int.tdiv_eq_ediv_of_nonneg (by omega), ← Int.natCast_ediv, Int.bmod_eq_of_le (by have := Nat.zero_le (X / Y); omega) (by have := Nat.div_le_self X Y; omega)]
  have m : (X / Y) * Y ≤ X := Nat.div_mul_le_self X Y
  have e : ((x / y) * y).toInt = (((X / Y) * Y : Nat) : Int) := by
    rw [Int32.toInt_mul, d, hy, ← Int.natCast_mul, Int.bmod_eq_of_le (by omega) (by omega)]
  rw [Int32.toInt_sub, hx, e, Int.bmod_eq_of_le (by omega) (by omega)]
  have := Nat.div_add_mod X Y
  rw [Nat.mul_comm] at this
  omega
theorem own_pos (b : Int32) : ∃ N : Nat, (b &&& (2147483647 : Int32)).toInt = N ∧ N < 2 ^ 31 := by
  have q : (b &&& (2147483647 : Int32)).toBitVec.toNat ≤ 2147483647 := by
    rw [Int32.toBitVec_and, BitVec.toNat_and]; exact Nat.and_le_right
  refine ⟨(b &&& (2147483647 : Int32)).toBitVec.toNat, ?_, by omega⟩
  rw [← Int32.toInt_toBitVec, BitVec.toInt_eq_toNat_of_lt (by omega)]
theorem own_prod {x wd : Int32} {X D : Nat} (hx : x.toInt = X) (hX : X < 256) (hw : wd.toInt = D) (hD : D < 64) : (x.toInt64 * wd.toInt64) = Int64.ofNat (X * D) := by
  have m : X * D ≤ 256 * 64 := Nat.mul_le_mul (by omega) (by omega)
  apply Int64.toInt_inj.mp
  rw [Int64.toInt_mul, Int32.toInt_toInt64, Int32.toInt_toInt64, hx, hw, ← Int.natCast_mul, Int.bmod_eq_of_le (by omega) (by omega), Int64.toInt_ofNat_of_lt (by omega)]
theorem own_ofNatB (n : Nat) : (Int64.ofNat n).toBitVec = BitVec.ofNat 64 n := rfl
theorem own_offI {x wd : Int32} {X D : Nat} (hx : x.toInt = X) (hX : X < 256) (hw : wd.toInt = D) (hD : D < 64) : (own_off x wd).toInt = (((X * D) % 64 : Nat) : Int) := by
  have m : X * D ≤ 256 * 64 := Nat.mul_le_mul (by omega) (by omega)
  unfold own_off
  rw [own_prod hx hX hw hD]
  have e : ((Int64.ofNat (X * D)).toInt32 &&& (63 : Int32)).toBitVec.toNat = (X * D) % 64 := by
    rw [Int32.toBitVec_and, BitVec.toNat_and]
    show (BitVec.signExtend 32 (Int64.ofNat (X * D)).toBitVec).toNat &&& 63 = _
    rw [own_ofNatB, BitVec.signExtend_eq_setWidth_of_le _ (by omega), BitVec.toNat_setWidth, BitVec.toNat_ofNat, Nat.mod_eq_of_lt (show X * D < 2 ^ 64 by omega), Nat.mod_eq_of_lt (show X * D < 2 ^ 32 by omega)]
    exact Nat.and_two_pow_sub_one_eq_mod _ 6
  rw [← Int32.toInt_toBitVec, BitVec.toInt_eq_toNat_of_lt (by omega), e]
theorem own_wdx {x wd : Int32} {X D : Nat} (hx : x.toInt = X) (hX : X < 256) (hw : wd.toInt = D) (hD : D < 64) : ((((x.toInt64 * wd.toInt64).toUInt64 >>> ((6 : Int32) &&& 0x3f).toInt64.toUInt64).toInt64).toInt32).toInt = (((X * D) / 64 : Nat) : Int) := by
  have m : X * D ≤ 256 * 64 := Nat.mul_le_mul (by omega) (by omega)
  rw [own_prod hx hX hw hD]
  have e : ((((Int64.ofNat (X * D)).toUInt64 >>> ((6 : Int32) &&& 0x3f).toInt64.toUInt64).toInt64).toInt32).toBitVec.toNat = (X * D) / 64 := by
    show (BitVec.signExtend 32 (((Int64.ofNat (X * D)).toUInt64 >>> ((6 : Int32) &&& 0x3f).toInt64.toUInt64).toInt64).toBitVec).toNat = _
    rw [own_shrB _ (show (6 : Int32).toInt = ((6 : Nat) : Int) from rfl) (by omega), own_ofNatB, BitVec.signExtend_eq_setWidth_of_le _ (by omega), BitVec.toNat_setWidth, BitVec.toNat_ushiftRight, BitVec.toNat_ofNat, Nat.mod_eq_of_lt (show X * D < 2 ^ 64 by omega), Nat.shiftRight_eq_div_pow, Nat.mod_eq_of_lt (by omega)]
  rw [← Int32.toInt_toBitVec, BitVec.toInt_eq_toNat_of_lt (by omega), e]
theorem own_i1 {x : Int32} {X : Nat} (hx : x.toInt = X) (hX : X < 100000) : (x + 1).toInt = ((X + 1 : Nat) : Int) := by
  rw [Int32.toInt_add, hx, show (1 : Int32).toInt = 1 from rfl, Int.bmod_eq_of_le (by omega) (by omega)]; omega
theorem own_i2 {x : Int32} {X : Nat} (hx : x.toInt = X) (hX : X < 100000) : (x + 2).toInt = ((X + 2 : Nat) : Int) := by
  rw [Int32.toInt_add, hx, show (2 : Int32).toInt = 2 from rfl, Int.bmod_eq_of_le (by omega) (by omega)]; omega
theorem own_d1 {x : Int32} {X : Nat} (hx : x.toInt = X) (h0 : 0 < X) (hX : X < 100000) : (x - 1).toInt = ((X - 1 : Nat) : Int) := by
  rw [Int32.toInt_sub, hx, show (1 : Int32).toInt = 1 from rfl, Int.bmod_eq_of_le (by omega) (by omega)]; omega
def own_wfJ (x0 x1 : Int32) : Int64 := ((x0.toInt64 * x1.toInt64) / (64 : Int64)) + (2 : Int64)
theorem own_wfI {x wd : Int32} {X D : Nat} (hx : x.toInt = X) (hX : X < 256) (hw : wd.toInt = D) (hD : D < 64) : (own_wfJ x wd).toInt = ((X * D / 64 + 2 : Nat) : Int) := by
  have m : X * D ≤ 256 * 64 := Nat.mul_le_mul (by omega) (by omega)
  unfold own_wfJ
  rw [own_prod hx hX hw hD]
  have d : (Int64.ofNat (X * D) / (64 : Int64)).toInt = ((X * D / 64 : Nat) : Int) := by
    rw [Int64.toInt_div, Int64.toInt_ofNat_of_lt (by omega), show (64 : Int64).toInt = 64 from rfl, Int.tdiv_eq_ediv_of_nonneg (by omega), Int.bmod_eq_of_le (by omega) (by omega)]; omega
  rw [Int64.toInt_add, d, show (2 : Int64).toInt = 2 from rfl, Int.bmod_eq_of_le (by omega) (by omega)]; omega
theorem own_wfOk {x wd : Int32} {X D : Nat} (hx : x.toInt = X) (hX : X < 256) (hw : wd.toInt = D) (hD : D < 64) : ¬ (2147483647 : Int64) < own_wfJ x wd := by
  have m : X * D ≤ 256 * 64 := Nat.mul_le_mul (by omega) (by omega)
  rw [Int64.lt_iff_toInt_lt, own_wfI hx hX hw hD, show (2147483647 : Int64).toInt = 2147483647 from rfl]; omega
theorem own_wf32 {x wd : Int32} {X D : Nat} (hx : x.toInt = X) (hX : X < 256) (hw : wd.toInt = D) (hD : D < 64) : (own_wfJ x wd).toInt32.toInt = ((X * D / 64 + 2 : Nat) : Int) := by
  have m : X * D ≤ 256 * 64 := Nat.mul_le_mul (by omega) (by omega)
  rw [Int64.toInt_toInt32, own_wfI hx hX hw hD, Int.bmod_eq_of_le (by omega) (by omega)]
theorem own_vB {mk x v : Int64} {D : Nat} (hm : ∀ j, mk.toBitVec.getLsbD j = decide (j < D)) (h : x &&& mk = v) : ∀ j, D ≤ j → v.toBitVec.getLsbD j = false := by
  intro j hj
  rw [← h, Int64.toBitVec_and, BitVec.getLsbD_and, hm]; simp; omega
theorem own_vle {mk x v : Int64} {D : Nat} (hD : D < 64) (hm : ∀ j, mk.toBitVec.getLsbD j = decide (j < D)) (h : x &&& mk = v) : ¬ mk < v := by
  have hv := own_vB hm h
  have q1 : v.toBitVec.toNat ≤ mk.toBitVec.toNat := by rw [← h, Int64.toBitVec_and, BitVec.toNat_and]; exact Nat.and_le_right
  have q2 : mk.toBitVec.toNat < 2 ^ 63 := by
    have := hm 63
    rw [BitVec.getLsbD, show decide (63 < D) = false by simp; omega] at this
    apply Nat.lt_of_not_le; intro r
    rw [Nat.testBit_eq_decide_div_mod_eq] at this
    have b := mk.toBitVec.isLt
    have : mk.toBitVec.toNat / 2 ^ 63 % 2 = 1 := by omega
    simp_all
  rw [Int64.lt_iff_toInt_lt, ← Int64.toInt_toBitVec, ← Int64.toInt_toBitVec, BitVec.toInt_eq_toNat_of_lt (by omega), BitVec.toInt_eq_toNat_of_lt (by omega)]
  omega


theorem own_wb {X LN D N : Nat} (hN : LN * D / 64 + 2 = N) (h : X < LN) : X * D / 64 + 1 < N := by
  have := Nat.div_le_div_right (c := 64) (Nat.mul_le_mul_right D (Nat.le_of_lt h)); omega
theorem own_wb2 {X LN D : Nat} (h : X < LN) (h2 : LN ≤ 131) (h3 : D < 64) : X * D / 64 < 100000 := by
  have := Nat.mul_le_mul (show X ≤ 131 by omega) (show D ≤ 64 by omega); omega
theorem ext_tr {h h' h'' : Heap} (A : Ext h h') (B : Ext h' h'') : Ext h h'' := ⟨Nat.le_trans A.1 B.1, fun a c q => B.2 a c (A.2 a c q)⟩

theorem own_sn_PackedInts_length_width {Z : State} {a0 : Array Value} (hw : ∀ d ∈ tables_1, d.before a0 Z = true) : Jvm.RoadKit.slotOf Z "com/example/quotient/quotient/PackedInts" "length" "I" ≠ Jvm.RoadKit.slotOf Z "com/example/quotient/quotient/PackedInts" "width" "I" := slot_ne (Or.inl (hw _ (List.mem_of_getElem? (i := 11) rfl))) (Or.inl (hw _ (List.mem_of_getElem? (i := 17) rfl))) (by decide) (t := .int) (t' := .int) (by decide) (by decide)
theorem own_sn_PackedInts_mask_width {Z : State} {a0 : Array Value} (hw : ∀ d ∈ tables_1, d.before a0 Z = true) : Jvm.RoadKit.slotOf Z "com/example/quotient/quotient/PackedInts" "mask" "J" ≠ Jvm.RoadKit.slotOf Z "com/example/quotient/quotient/PackedInts" "width" "I" := slot_ne (Or.inl (hw _ (List.mem_of_getElem? (i := 19) rfl))) (Or.inl (hw _ (List.mem_of_getElem? (i := 17) rfl))) (by decide) (t := .long) (t' := .int) (by decide) (by decide)
theorem own_sn_PackedInts_words_width {Z : State} {a0 : Array Value} (hw : ∀ d ∈ tables_1, d.before a0 Z = true) : Jvm.RoadKit.slotOf Z "com/example/quotient/quotient/PackedInts" "words" "[J" ≠ Jvm.RoadKit.slotOf Z "com/example/quotient/quotient/PackedInts" "width" "I" := slot_ne (Or.inl (hw _ (List.mem_of_getElem? (i := 43) rfl))) (Or.inl (hw _ (List.mem_of_getElem? (i := 17) rfl))) (by decide) (t := (.array .long)) (t' := .int) (by decide) (by decide)
theorem own_sn_PackedInts_length_mask {Z : State} {a0 : Array Value} (hw : ∀ d ∈ tables_1, d.before a0 Z = true) : Jvm.RoadKit.slotOf Z "com/example/quotient/quotient/PackedInts" "length" "I" ≠ Jvm.RoadKit.slotOf Z "com/example/quotient/quotient/PackedInts" "mask" "J" := slot_ne (Or.inl (hw _ (List.mem_of_getElem? (i := 11) rfl))) (Or.inl (hw _ (List.mem_of_getElem? (i := 19) rfl))) (by decide) (t := .int) (t' := .long) (by decide) (by decide)
theorem own_sn_PackedInts_width_mask {Z : State} {a0 : Array Value} (hw : ∀ d ∈ tables_1, d.before a0 Z = true) : Jvm.RoadKit.slotOf Z "com/example/quotient/quotient/PackedInts" "width" "I" ≠ Jvm.RoadKit.slotOf Z "com/example/quotient/quotient/PackedInts" "mask" "J" := slot_ne (Or.inl (hw _ (List.mem_of_getElem? (i := 17) rfl))) (Or.inl (hw _ (List.mem_of_getElem? (i := 19) rfl))) (by decide) (t := .int) (t' := .long) (by decide) (by decide)
theorem own_sn_PackedInts_words_mask {Z : State} {a0 : Array Value} (hw : ∀ d ∈ tables_1, d.before a0 Z = true) : Jvm.RoadKit.slotOf Z "com/example/quotient/quotient/PackedInts" "words" "[J" ≠ Jvm.RoadKit.slotOf Z "com/example/quotient/quotient/PackedInts" "mask" "J" := slot_ne (Or.inl (hw _ (List.mem_of_getElem? (i := 43) rfl))) (Or.inl (hw _ (List.mem_of_getElem? (i := 19) rfl))) (by decide) (t := (.array .long)) (t' := .long) (by decide) (by decide)
theorem own_dSW_0 : decode prog_140_method_3_code 0 = .ok (.iload_n 1, 1) := by decide +kernel
theorem own_dSW_1 : decode prog_140_method_3_code 1 = .ok (.bipush 63, 2) := by decide +kernel
theorem own_dSW_3 : decode prog_140_method_3_code 3 = .ok (.if_icmp .le 13, 3) := by decide +kernel
theorem own_dSW_16 : decode prog_140_method_3_code 16 = .ok (.aload_n 0, 1) := by decide +kernel
theorem own_dSW_17 : decode prog_140_method_3_code 17 = .ok (.iload_n 1, 1) := by decide +kernel
theorem own_dSW_18 : decode prog_140_method_3_code 18 = .ok (.putfield 38, 3) := by decide +kernel
theorem own_dSW_21 : decode prog_140_method_3_code 21 = .ok (.aload_n 0, 1) := by decide +kernel
theorem own_dSW_22 : decode prog_140_method_3_code 22 = .ok (.lconst 1, 1) := by decide +kernel
theorem own_dSW_23 : decode prog_140_method_3_code 23 = .ok (.iload_n 1, 1) := by decide +kernel
theorem own_dSW_24 : decode prog_140_method_3_code 24 = .ok (.lshl, 1) := by decide +kernel
theorem own_dSW_25 : decode prog_140_method_3_code 25 = .ok (.lconst 1, 1) := by decide +kernel
theorem own_dSW_26 : decode prog_140_method_3_code 26 = .ok (.lsub, 1) := by decide +kernel
theorem own_dSW_27 : decode prog_140_method_3_code 27 = .ok (.putfield 41, 3) := by decide +kernel
theorem own_dSW_30 : decode prog_140_method_3_code 30 = .ok (.return_, 1) := by decide +kernel
theorem own_pn_own_rmSW : plainFor (⟨"com/example/quotient/quotient/PackedInts", "setWidth", "(I)V"⟩ : MethodName) = true := plainFor_of_name (show plainName "com/example/quotient/quotient/PackedInts" = true by first | (simp [plainName, overriddenIn]; done) | decide +kernel)
set_option maxRecDepth 65536 in
set_option maxHeartbeats 40000000 in
theorem own_rmSW (l : Launch) (Z : State) (a0 : Array Value) (hw : ∀ d ∈ tables_1, d.before a0 Z = true) (ws : List Jvm.Cond) (h0 : Heap) (n0 : Nat) (Z0 : n0 ≤ h0.size) (a : Addr) (g_a : n0 ≤ a) (u1 u2 x : Int32) (u3 : Int64) (hx63 : ¬ (63 : Int32) < x) (E_a : Exa Z h0 a "com/example/quotient/quotient/PackedInts") (F_a_length : Fld Z h0 a "com/example/quotient/quotient/PackedInts" "length" "I" (.int u1)) (F_a_width : Fld Z h0 a "com/example/quotient/quotient/PackedInts" "width" "I" (.int u2)) (F_a_mask : Fld Z h0 a "com/example/quotient/quotient/PackedInts" "mask" "J" (.long u3)) (F_a_words : Fld Z h0 a "com/example/quotient/quotient/PackedInts" "words" "[J" .null)  :
    own_C l Z (⟨"com/example/quotient/quotient/PackedInts", "setWidth", "(I)V"⟩ : MethodName) prog_140_method_3_code 2 none ws ({ frames := 0, cells := 0, slots := 0, locals := 0 } : Room) #[(.ref a), (.int x)] h0 (own_Q n0 (fun v h => v = none ∧ Keep h0 h [a] ∧ Exa Z h a "com/example/quotient/quotient/PackedInts" ∧ Fld Z h a "com/example/quotient/quotient/PackedInts" "width" "I" (.int x) ∧ Fld Z h a "com/example/quotient/quotient/PackedInts" "mask" "J" (.long (own_mk x)) ∧ Fld Z h a "com/example/quotient/quotient/PackedInts" "words" "[J" .null)) := by
  refine own_met own_pn_own_rmSW #[rv a, iv x] (fun m => by first | (simp [entryFrame, mkF, argsToLocals, Value.category]; done) | rfl) ?_
  intro p e s m below meth c s₁ Fi hx hby hml hown hret hlk hZ hnm hF X0 e0
  replace X0 := own_S.of X0 (n0)
  have hn : n0 ≤ h0.size := Z0
  have hK := Keep.refl h0 [a]
  refine own_gs 1 [(.int x)] (fun t' k => XS.iloadN X0.here hx rfl (hb hby own_dSW_0) rfl  k) ?_
  refine own_gs 3 [(.int (63 : Int32)), (.int x)] (fun t' k => XS.bipush X0.here hx rfl (hb hby own_dSW_1) k) ?_
  refine own_gs 16 [] (fun t' k => XS.icmpYes X0.here hx rfl (pc0 := 3) (pc' := 16) rfl (hb hby own_dSW_3) rfl (flt hx63).2.2.2 (by decide) (by decide) k) ?_
  refine own_gs 17 [(.ref a)] (fun t' k => XS.aloadN X0.here hx rfl (hb hby own_dSW_16) rfl rfl  k) ?_
  refine own_gs 18 [(.int x), (.ref a)] (fun t' k => XS.iloadN X0.here hx rfl (hb hby own_dSW_17) rfl  k) ?_
  refine X0.putF hx hZ hown (hw _ (List.mem_of_getElem? (i := 16) rfl)) e0 F_a_width E_a g_a (Or.inl (hw _ (List.mem_of_getElem? (i := 17) rfl))) (hw _ (List.mem_of_getElem? (i := 2) rfl)) (ty := .int) (by decide) rfl rfl (hb hby own_dSW_18) ?_
  intro T1 h1 X1 e1 W1
  replace E_a := E_a.wr W1
  replace F_a_length := F_a_length.other W1 (Or.inr (own_sn_PackedInts_length_width hw))
  replace F_a_width := F_a_width.same W1
  replace F_a_mask := F_a_mask.other W1 (Or.inr (own_sn_PackedInts_mask_width hw))
  replace F_a_words := F_a_words.other W1 (Or.inr (own_sn_PackedInts_words_width hw))
  replace hn := Nat.le_trans hn (Keep.of_wr W1).1
  replace hK := hK.wr W1 (Or.inl (List.mem_of_getElem? (i := 0) rfl))
  refine own_gs 22 [(.ref a)] (fun t' k => XS.aloadN X1.here hx rfl (hb hby own_dSW_21) rfl rfl  k) ?_
  refine own_gs 23 [(.long (1 : Int64)), (.ref a)] (fun t' k => XS.lconst X1.here hx rfl (hb hby own_dSW_22) k) ?_
  refine own_gs 24 [(.int x), (.long (1 : Int64)), (.ref a)] (fun t' k => XS.iloadN X1.here hx rfl (hb hby own_dSW_23) rfl  k) ?_
  refine own_gs 25 [(.long ((1 : Int64) <<< (x &&& 0x3f).toInt64)), (.ref a)] (fun t' k => XS.lshl X1.here hx rfl (hb hby own_dSW_24) rfl k) ?_
  refine own_gs 26 [(.long (1 : Int64)), (.long ((1 : Int64) <<< (x &&& 0x3f).toInt64)), (.ref a)] (fun t' k => XS.lconst X1.here hx rfl (hb hby own_dSW_25) k) ?_
  refine own_gs 27 [(.long (((1 : Int64) <<< (x &&& 0x3f).toInt64) - (1 : Int64))), (.ref a)] (fun t' k => XS.lsub X1.here hx rfl (hb hby own_dSW_26) rfl k) ?_
  refine X1.putF hx hZ hown (hw _ (List.mem_of_getElem? (i := 18) rfl)) e1 F_a_mask E_a g_a (Or.inl (hw _ (List.mem_of_getElem? (i := 19) rfl))) (hw _ (List.mem_of_getElem? (i := 2) rfl)) (ty := .long) (by decide) rfl rfl (hb hby own_dSW_27) ?_
  intro T2 h2 X2 e2 W2
  replace E_a := E_a.wr W2
  replace F_a_length := F_a_length.other W2 (Or.inr (own_sn_PackedInts_length_mask hw))
  replace F_a_width := F_a_width.other W2 (Or.inr (own_sn_PackedInts_width_mask hw))
  replace F_a_mask := F_a_mask.same W2
  replace F_a_words := F_a_words.other W2 (Or.inr (own_sn_PackedInts_words_mask hw))
  replace hn := Nat.le_trans hn (Keep.of_wr W2).1
  replace hK := hK.wr W2 (Or.inl (List.mem_of_getElem? (i := 0) rfl))
  refine X2.retV hF (Nat.zero_le _) hx hlk hret (hb hby own_dSW_30) ?_ (by decide) (by decide)
  rw [e2]
  exact ⟨rfl, hK, E_a, F_a_width, F_a_mask, F_a_words⟩

theorem own_dJA_0 : decode prog_85_method_9_code 0 = .ok (.lload_n 0, 1) := by decide +kernel
theorem own_dJA_1 : decode prog_85_method_9_code 1 = .ok (.ldc2_w 77, 3) := by decide +kernel
theorem own_dJA_4 : decode prog_85_method_9_code 4 = .ok (.lcmp, 1) := by decide +kernel
theorem own_dJA_5 : decode prog_85_method_9_code 5 = .ok (.ifCond .le 18, 3) := by decide +kernel
theorem own_dJA_23 : decode prog_85_method_9_code 23 = .ok (.lload_n 0, 1) := by decide +kernel
theorem own_dJA_24 : decode prog_85_method_9_code 24 = .ok (.l2i, 1) := by decide +kernel
theorem own_dJA_25 : decode prog_85_method_9_code 25 = .ok (.ireturn, 1) := by decide +kernel
theorem own_pn_own_rmJA : plainFor (⟨"com/example/quotient/quotient/IntArray", "javaArrayLength", "(JLjava/lang/String;)I"⟩ : MethodName) = true := plainFor_of_name (show plainName "com/example/quotient/quotient/IntArray" = true by first | (simp [plainName, overriddenIn]; done) | decide +kernel)
set_option maxRecDepth 65536 in
set_option maxHeartbeats 40000000 in
theorem own_rmJA (l : Launch) (Z : State) (a0 : Array Value) (hw : ∀ d ∈ tables_1, d.before a0 Z = true) (ws : List Jvm.Cond) (h0 : Heap) (v : Int64) (a : Addr) (hv : ¬ (2147483647 : Int64) < v)  :
    own_C l Z (⟨"com/example/quotient/quotient/IntArray", "javaArrayLength", "(JLjava/lang/String;)I"⟩ : MethodName) prog_85_method_9_code 3 (some .int) ws ({ frames := 0, cells := 0, slots := 0, locals := 0 } : Room) #[(.long v), (.ref a)] h0 (own_P (.int v.toInt32) h0) := by
  refine own_met own_pn_own_rmJA #[jv v, .second, rv a] (fun m => by first | (simp [entryFrame, mkF, argsToLocals, Value.category]; done) | rfl) ?_
  intro p e s m below meth c s₁ Fi hx hby hml hown hret hlk hZ hnm hF X0 e0
  refine own_gs 1 [(.long v)] (fun t' k => XS.lloadN X0.here hx rfl (hb hby own_dJA_0) rfl  k) ?_
  refine own_gs 4 [(.long (2147483647 : Int64)), (.long v)] (fun t' k => X0.ldc2Long hx hown (mvT hZ (hw _ (List.mem_of_getElem? (i := 40) rfl))) (g := (mkF m 1 #[jv v, .second, rv a] [(.long v)])) rfl (hb hby own_dJA_1) _ k) ?_
  refine own_gs 5 [(.int (lcmpW v (2147483647 : Int64)))] (fun t' k => XS.lcmp X0.here hx rfl (hb hby own_dJA_4) rfl k) ?_
  refine own_gs 23 [] (fun t' k => XS.ifYes X0.here hx rfl (pc0 := 5) (pc' := 23) rfl (hb hby own_dJA_5) rfl ((if0 _ _).trans (flt (fun q' => hv ((lw_gt v (2147483647 : Int64)).mp q'))).2.2.2) (by decide) (by decide) k) ?_
  refine own_gs 24 [(.long v)] (fun t' k => XS.lloadN X0.here hx rfl (hb hby own_dJA_23) rfl  k) ?_
  refine own_gs 25 [(.int (v.toInt32))] (fun t' k => XS.l2i X0.here hx rfl (hb hby own_dJA_24) rfl k) ?_
  refine own_retI hF (Nat.zero_le _) X0 hx hlk hret (hb hby own_dJA_25) ?_ (by decide) (by decide)
  exact ⟨rfl, e0, rfl⟩

theorem own_dWF_0 : decode prog_140_method_5_code 0 = .ok (.iload_n 0, 1) := by decide +kernel
theorem own_dWF_1 : decode prog_140_method_5_code 1 = .ok (.i2l, 1) := by decide +kernel
theorem own_dWF_2 : decode prog_140_method_5_code 2 = .ok (.iload_n 1, 1) := by decide +kernel
theorem own_dWF_3 : decode prog_140_method_5_code 3 = .ok (.i2l, 1) := by decide +kernel
theorem own_dWF_4 : decode prog_140_method_5_code 4 = .ok (.lmul, 1) := by decide +kernel
theorem own_dWF_5 : decode prog_140_method_5_code 5 = .ok (.ldc2_w 49, 3) := by decide +kernel
theorem own_dWF_8 : decode prog_140_method_5_code 8 = .ok (.ldiv, 1) := by decide +kernel
theorem own_dWF_9 : decode prog_140_method_5_code 9 = .ok (.ldc2_w 51, 3) := by decide +kernel
theorem own_dWF_12 : decode prog_140_method_5_code 12 = .ok (.ladd, 1) := by decide +kernel
theorem own_dWF_13 : decode prog_140_method_5_code 13 = .ok (.ldc 53, 2) := by decide +kernel
theorem own_dWF_15 : decode prog_140_method_5_code 15 = .ok (.invokestatic 55, 3) := by decide +kernel
theorem own_dWF_18 : decode prog_140_method_5_code 18 = .ok (.ireturn, 1) := by decide +kernel
theorem own_pn_own_rmWF : plainFor (⟨"com/example/quotient/quotient/PackedInts", "wordsFor", "(II)I"⟩ : MethodName) = true := plainFor_of_name (show plainName "com/example/quotient/quotient/PackedInts" = true by first | (simp [plainName, overriddenIn]; done) | decide +kernel)
set_option maxRecDepth 65536 in
set_option maxHeartbeats 40000000 in
theorem own_rmWF (l : Launch) (Z : State) (a0 : Array Value) (hw : ∀ d ∈ tables_1, d.before a0 Z = true) (ws : List Jvm.Cond) (h0 : Heap) (n0 : Nat) (Z0 : n0 ≤ h0.size) (x0 x1 : Int32) (hv : ¬ (2147483647 : Int64) < own_wfJ x0 x1)  :
    own_CW l Z (⟨"com/example/quotient/quotient/PackedInts", "wordsFor", "(II)I"⟩ : MethodName) prog_140_method_5_code 2 (some .int) ws ({ frames := 1, cells := 2, slots := 24, locals := 14 } : Room) #[(.int x0), (.int x1)] h0 (own_Q n0 (fun v h => v = some (.int (own_wfJ x0 x1).toInt32) ∧ Ext h0 h)) := by
  refine own_metW own_pn_own_rmWF #[iv x0, iv x1] (fun m => by first | (simp [entryFrame, mkF, argsToLocals, Value.category]; done) | rfl) ?_
  intro p e s vm0 m below meth c s₁ Fi hx hby hml hown hret hlk hZ hnm hFW hS hk X0 e0
  replace X0 := own_S.of X0 (n0)
  have hn : n0 ≤ h0.size := Z0
  refine own_gs 1 [(.int x0)] (fun t' k => XS.iloadN X0.here hx rfl (hb hby own_dWF_0) rfl  k) ?_
  refine own_gs 2 [(.long (x0.toInt64))] (fun t' k => XS.i2l X0.here hx rfl (hb hby own_dWF_1) rfl k) ?_
  refine own_gs 3 [(.int x1), (.long (x0.toInt64))] (fun t' k => XS.iloadN X0.here hx rfl (hb hby own_dWF_2) rfl  k) ?_
  refine own_gs 4 [(.long (x1.toInt64)), (.long (x0.toInt64))] (fun t' k => XS.i2l X0.here hx rfl (hb hby own_dWF_3) rfl k) ?_
  refine own_gs 5 [(.long ((x0.toInt64) * (x1.toInt64)))] (fun t' k => XS.lmul X0.here hx rfl (hb hby own_dWF_4) rfl k) ?_
  refine own_gs 8 [(.long (64 : Int64)), (.long ((x0.toInt64) * (x1.toInt64)))] (fun t' k => X0.ldc2Long hx hown (mvT hZ (hw _ (List.mem_of_getElem? (i := 26) rfl))) (g := (mkF m 5 #[iv x0, iv x1] [(.long ((x0.toInt64) * (x1.toInt64)))])) rfl (hb hby own_dWF_5) _ k) ?_
  refine own_gs 9 [(.long (((x0.toInt64) * (x1.toInt64)) / (64 : Int64)))] (fun t' k => XS.ldiv X0.here hx rfl (hb hby own_dWF_8) rfl (by decide) k) ?_
  refine own_gs 12 [(.long (2 : Int64)), (.long (((x0.toInt64) * (x1.toInt64)) / (64 : Int64)))] (fun t' k => X0.ldc2Long hx hown (mvT hZ (hw _ (List.mem_of_getElem? (i := 27) rfl))) (g := (mkF m 9 #[iv x0, iv x1] [(.long (((x0.toInt64) * (x1.toInt64)) / (64 : Int64)))])) rfl (hb hby own_dWF_9) _ k) ?_
  refine own_gs 13 [(.long ((((x0.toInt64) * (x1.toInt64)) / (64 : Int64)) + (2 : Int64)))] (fun t' k => XS.ladd X0.here hx rfl (hb hby own_dWF_12) rfl k) ?_
  refine X0.ldcS hx hZ hown (hw _ (List.mem_of_getElem? (i := 28) rfl)) (own_sat hw) e0 hS hk 20 (by decide) (by decide) (by decide) (by decide) (hb hby own_dWF_13) ?_
  clear hS hk hZ hown
  intro T1 h1 vm1 k1 t1 X1 e1 xt1 hS hk hZ hown
  replace hn := Nat.le_trans hn xt1.1
  refine X1.callP hx hZ (y := (⟨"com/example/quotient/quotient/IntArray", "javaArrayLength", "(JLjava/lang/String;)I"⟩ : MethodName)) (fr := 0) (lo := 0) (r := (.int (((((x0.toInt64) * (x1.toInt64)) / (64 : Int64)) + (2 : Int64)).toInt32))) hown (hw _ (List.mem_of_getElem? (i := 36) rfl)) (hw _ (List.mem_of_getElem? (i := 37) rfl)) (hw _ (List.mem_of_getElem? (i := 38) rfl)) (hw _ (List.mem_of_getElem? (i := 39) rfl)) (by decide) e1 [(.long ((((x0.toInt64) * (x1.toInt64)) / (64 : Int64)) + (2 : Int64))), (.ref t1)] [] (own_rmJA l Z a0 hw [] h1 ((((x0.toInt64) * (x1.toInt64)) / (64 : Int64)) + (2 : Int64)) t1 hv) 0 (by decide) (by decide) (Nat.le_of_eq rfl) (by decide) (by decide) (by rw [hml]; rfl) (lenOf own_pd0 rfl) rfl (hb hby own_dWF_15) ?_
  intro T2 X2 e2
  refine X2.retI (hFW _ _ hS) (by first | exact hk | (rw [e2]; exact hk)) hx hlk hret (hb hby own_dWF_18) ?_ (by decide) (by decide)
  rw [e2]
  exact ⟨rfl, xt1⟩

theorem own_dNW_0 : decode prog_140_method_4_code 0 = .ok (.iload_n 0, 1) := by decide +kernel
theorem own_dNW_1 : decode prog_140_method_4_code 1 = .ok (.iload_n 1, 1) := by decide +kernel
theorem own_dNW_2 : decode prog_140_method_4_code 2 = .ok (.invokestatic 45, 3) := by decide +kernel
theorem own_dNW_5 : decode prog_140_method_4_code 5 = .ok (.newarray .long, 2) := by decide +kernel
theorem own_dNW_7 : decode prog_140_method_4_code 7 = .ok (.areturn, 1) := by decide +kernel
theorem own_pn_own_rmNW : plainFor (⟨"com/example/quotient/quotient/PackedInts", "newWords", "(II)[J"⟩ : MethodName) = true := plainFor_of_name (show plainName "com/example/quotient/quotient/PackedInts" = true by first | (simp [plainName, overriddenIn]; done) | decide +kernel)
set_option maxRecDepth 65536 in
set_option maxHeartbeats 40000000 in
theorem own_rmNW (l : Launch) (Z : State) (a0 : Array Value) (hw : ∀ d ∈ tables_1, d.before a0 Z = true) (ws : List Jvm.Cond) (h0 : Heap) (n0 : Nat) (Z0 : n0 ≤ h0.size) (x0 x1 : Int32) (N : Nat) (hv : ¬ (2147483647 : Int64) < own_wfJ x0 x1) (hN : (own_wfJ x0 x1).toInt32.toInt = N) (hN2 : N ≤ 132)  :
    own_CW l Z (⟨"com/example/quotient/quotient/PackedInts", "newWords", "(II)[J"⟩ : MethodName) prog_140_method_4_code 2 (some (.array .long)) ws ({ frames := 2, cells := 3, slots := 156, locals := 27 } : Room) #[(.int x0), (.int x1)] h0 (own_Q n0 (fun v h => ∃ b, v = some (.ref b) ∧ h0.size ≤ b ∧ Ext h0 h ∧ own_L Z h b N (fun _ => 0))) := by
  refine own_metW own_pn_own_rmNW #[iv x0, iv x1] (fun m => by first | (simp [entryFrame, mkF, argsToLocals, Value.category]; done) | rfl) ?_
  intro p e s vm0 m below meth c s₁ Fi hx hby hml hown hret hlk hZ hnm hFW hS hk X0 e0
  replace X0 := own_S.of X0 (n0)
  have hn : n0 ≤ h0.size := Z0
  refine own_gs 1 [(.int x0)] (fun t' k => XS.iloadN X0.here hx rfl (hb hby own_dNW_0) rfl  k) ?_
  refine own_gs 2 [(.int x1), (.int x0)] (fun t' k => XS.iloadN X0.here hx rfl (hb hby own_dNW_1) rfl  k) ?_
  refine X0.callSW hx hZ (y := (⟨"com/example/quotient/quotient/PackedInts", "wordsFor", "(II)I"⟩ : MethodName)) hown (hw _ (List.mem_of_getElem? (i := 23) rfl)) (hw _ (List.mem_of_getElem? (i := 24) rfl)) (hw _ (List.mem_of_getElem? (i := 3) rfl)) (hw _ (List.mem_of_getElem? (i := 25) rfl)) (by decide) e0 hS hk [(.int x0), (.int x1)] [] (own_rmWF l Z a0 hw [] h0 n0 hn x0 x1 hv) 0 (by decide) (by decide) (Nat.le_of_eq rfl) (by decide) (by decide) (by rw [hml]; rfl) (lenOf own_pd1 rfl) rfl (hb hby own_dNW_2) ?_
  clear hS hk hZ hown
  rintro T1 _ vm1 k1 X1 ⟨rfl, xt1⟩ hS hk hZ hown
  replace hn := Nat.le_trans hn xt1.1
  show own_G p e below Fi T1 (mkF m 5 #[iv x0, iv x1] [(.int (own_wfJ x0 x1).toInt32)])
  refine X1.newP hx hZ (hw _ (List.mem_of_getElem? (i := 41) rfl)) rfl N hN (hb hby own_dNW_5) 132 hN2 (by decide) (by decide) (by decide) ?_
  intro T2 h2 b2 X2 e2 q2 xt2 A_b2
  have g_b2 : n0 ≤ b2 := by rw [q2]; exact hn
  replace hn := Nat.le_trans hn xt2.1
  replace hk := Nat.le_trans hk xt2.1
  replace A_b2 : own_A Z h2 .long b2 (List.replicate N (.long (0 : Int64))) := A_b2
  refine X2.retA (hFW _ _ hS) (by first | exact hk | (rw [e2]; exact hk)) hx hlk hret rfl rfl (hb hby own_dNW_7) ?_ (by decide) (by decide)
  rw [e2]
  exact ⟨b2, rfl, by rw [q2]; exact xt1.1, ext_tr xt1 xt2, own_L.new A_b2⟩

theorem own_sn_PackedInts_width_length {Z : State} {a0 : Array Value} (hw : ∀ d ∈ tables_1, d.before a0 Z = true) : Jvm.RoadKit.slotOf Z "com/example/quotient/quotient/PackedInts" "width" "I" ≠ Jvm.RoadKit.slotOf Z "com/example/quotient/quotient/PackedInts" "length" "I" := slot_ne (Or.inl (hw _ (List.mem_of_getElem? (i := 17) rfl))) (Or.inl (hw _ (List.mem_of_getElem? (i := 11) rfl))) (by decide) (t := .int) (t' := .int) (by decide) (by decide)
theorem own_sn_PackedInts_mask_length {Z : State} {a0 : Array Value} (hw : ∀ d ∈ tables_1, d.before a0 Z = true) : Jvm.RoadKit.slotOf Z "com/example/quotient/quotient/PackedInts" "mask" "J" ≠ Jvm.RoadKit.slotOf Z "com/example/quotient/quotient/PackedInts" "length" "I" := slot_ne (Or.inl (hw _ (List.mem_of_getElem? (i := 19) rfl))) (Or.inl (hw _ (List.mem_of_getElem? (i := 11) rfl))) (by decide) (t := .long) (t' := .int) (by decide) (by decide)
theorem own_sn_PackedInts_words_length {Z : State} {a0 : Array Value} (hw : ∀ d ∈ tables_1, d.before a0 Z = true) : Jvm.RoadKit.slotOf Z "com/example/quotient/quotient/PackedInts" "words" "[J" ≠ Jvm.RoadKit.slotOf Z "com/example/quotient/quotient/PackedInts" "length" "I" := slot_ne (Or.inl (hw _ (List.mem_of_getElem? (i := 43) rfl))) (Or.inl (hw _ (List.mem_of_getElem? (i := 11) rfl))) (by decide) (t := (.array .long)) (t' := .int) (by decide) (by decide)
theorem own_sn_PackedInts_width_words {Z : State} {a0 : Array Value} (hw : ∀ d ∈ tables_1, d.before a0 Z = true) : Jvm.RoadKit.slotOf Z "com/example/quotient/quotient/PackedInts" "width" "I" ≠ Jvm.RoadKit.slotOf Z "com/example/quotient/quotient/PackedInts" "words" "[J" := slot_ne (Or.inl (hw _ (List.mem_of_getElem? (i := 17) rfl))) (Or.inl (hw _ (List.mem_of_getElem? (i := 43) rfl))) (by decide) (t := .int) (t' := (.array .long)) (by decide) (by decide)
theorem own_sn_PackedInts_mask_words {Z : State} {a0 : Array Value} (hw : ∀ d ∈ tables_1, d.before a0 Z = true) : Jvm.RoadKit.slotOf Z "com/example/quotient/quotient/PackedInts" "mask" "J" ≠ Jvm.RoadKit.slotOf Z "com/example/quotient/quotient/PackedInts" "words" "[J" := slot_ne (Or.inl (hw _ (List.mem_of_getElem? (i := 19) rfl))) (Or.inl (hw _ (List.mem_of_getElem? (i := 43) rfl))) (by decide) (t := .long) (t' := (.array .long)) (by decide) (by decide)
theorem own_dI_0 : decode prog_140_method_1_code 0 = .ok (.aload_n 0, 1) := by decide +kernel
theorem own_dI_1 : decode prog_140_method_1_code 1 = .ok (.invokespecial 1, 3) := by decide +kernel
theorem own_dI_4 : decode prog_140_method_1_code 4 = .ok (.aload_n 0, 1) := by decide +kernel
theorem own_dI_5 : decode prog_140_method_1_code 5 = .ok (.iload_n 1, 1) := by decide +kernel
theorem own_dI_6 : decode prog_140_method_1_code 6 = .ok (.putfield 7, 3) := by decide +kernel
theorem own_dI_9 : decode prog_140_method_1_code 9 = .ok (.aload_n 0, 1) := by decide +kernel
theorem own_dI_10 : decode prog_140_method_1_code 10 = .ok (.iload_n 2, 1) := by decide +kernel
theorem own_dI_11 : decode prog_140_method_1_code 11 = .ok (.invokevirtual 13, 3) := by decide +kernel
theorem own_dI_14 : decode prog_140_method_1_code 14 = .ok (.aload_n 0, 1) := by decide +kernel
theorem own_dI_15 : decode prog_140_method_1_code 15 = .ok (.iload_n 1, 1) := by decide +kernel
theorem own_dI_16 : decode prog_140_method_1_code 16 = .ok (.iload_n 2, 1) := by decide +kernel
theorem own_dI_17 : decode prog_140_method_1_code 17 = .ok (.invokestatic 17, 3) := by decide +kernel
theorem own_dI_20 : decode prog_140_method_1_code 20 = .ok (.putfield 21, 3) := by decide +kernel
theorem own_dI_23 : decode prog_140_method_1_code 23 = .ok (.return_, 1) := by decide +kernel
theorem own_pn_own_rmI : plainFor (⟨"com/example/quotient/quotient/PackedInts", "<init>", "(II)V"⟩ : MethodName) = true := plainFor_of_name (show plainName "com/example/quotient/quotient/PackedInts" = true by first | (simp [plainName, overriddenIn]; done) | decide +kernel)
set_option maxRecDepth 65536 in
set_option maxHeartbeats 40000000 in
theorem own_rmI (l : Launch) (Z : State) (a0 : Array Value) (hw : ∀ d ∈ tables_1, d.before a0 Z = true) (ws : List Jvm.Cond) (h0 : Heap) (n0 : Nat) (Z0 : n0 ≤ h0.size) (a : Addr) (g_a : n0 ≤ a) (u1 u2 x1 x2 : Int32) (u3 : Int64) (N : Nat) (hx63 : ¬ (63 : Int32) < x2) (hv : ¬ (2147483647 : Int64) < own_wfJ x1 x2) (hN : (own_wfJ x1 x2).toInt32.toInt = N) (hN2 : N ≤ 132) (E_a : Exa Z h0 a "com/example/quotient/quotient/PackedInts") (F_a_length : Fld Z h0 a "com/example/quotient/quotient/PackedInts" "length" "I" (.int u1)) (F_a_width : Fld Z h0 a "com/example/quotient/quotient/PackedInts" "width" "I" (.int u2)) (F_a_mask : Fld Z h0 a "com/example/quotient/quotient/PackedInts" "mask" "J" (.long u3)) (F_a_words : Fld Z h0 a "com/example/quotient/quotient/PackedInts" "words" "[J" .null)  :
    own_CW l Z (⟨"com/example/quotient/quotient/PackedInts", "<init>", "(II)V"⟩ : MethodName) prog_140_method_1_code 3 none ws ({ frames := 3, cells := 3, slots := 156, locals := 41 } : Room) #[(.ref a), (.int x1), (.int x2)] h0 (own_Q n0 (fun v h => ∃ b, v = none ∧ a < b ∧ n0 ≤ b ∧ n0 ≤ h.size ∧ Exa Z h a "com/example/quotient/quotient/PackedInts" ∧ Fld Z h a "com/example/quotient/quotient/PackedInts" "width" "I" (.int x2) ∧ Fld Z h a "com/example/quotient/quotient/PackedInts" "mask" "J" (.long (own_mk x2)) ∧ Fld Z h a "com/example/quotient/quotient/PackedInts" "words" "[J" (.ref b) ∧ own_L Z h b N (fun _ => 0))) := by
  refine own_metW own_pn_own_rmI #[rv a, iv x1, iv x2] (fun m => by first | (simp [entryFrame, mkF, argsToLocals, Value.category]; done) | rfl) ?_
  intro p e s vm0 m below meth c s₁ Fi hx hby hml hown hret hlk hZ hnm hFW hS hk X0 e0
  replace X0 := own_S.of X0 (n0)
  have hn : n0 ≤ h0.size := Z0
  refine own_gs 1 [(.ref a)] (fun t' k => XS.aloadN X0.here hx rfl (hb hby own_dI_0) rfl rfl  k) ?_
  refine X0.initO hx hZ hown (hw _ (List.mem_of_getElem? (i := 7) rfl)) (hw _ (List.mem_of_getElem? (i := 8) rfl)) (hw _ (List.mem_of_getElem? (i := 9) rfl)) e0 (by rw [hml]; rfl) (hb hby own_dI_1) (by decide) 0 (Nat.le_of_eq rfl) (by decide) ?_
  intro T1 X1 e1
  refine own_gs 5 [(.ref a)] (fun t' k => XS.aloadN X1.here hx rfl (hb hby own_dI_4) rfl rfl  k) ?_
  refine own_gs 6 [(.int x1), (.ref a)] (fun t' k => XS.iloadN X1.here hx rfl (hb hby own_dI_5) rfl  k) ?_
  refine X1.putF hx hZ hown (hw _ (List.mem_of_getElem? (i := 10) rfl)) e1 F_a_length E_a g_a (Or.inl (hw _ (List.mem_of_getElem? (i := 11) rfl))) (hw _ (List.mem_of_getElem? (i := 2) rfl)) (ty := .int) (by decide) rfl rfl (hb hby own_dI_6) ?_
  intro T2 h2 X2 e2 W2
  replace E_a := E_a.wr W2
  replace F_a_length := F_a_length.same W2
  replace F_a_width := F_a_width.other W2 (Or.inr (own_sn_PackedInts_width_length hw))
  replace F_a_mask := F_a_mask.other W2 (Or.inr (own_sn_PackedInts_mask_length hw))
  replace F_a_words := F_a_words.other W2 (Or.inr (own_sn_PackedInts_words_length hw))
  replace hn := Nat.le_trans hn (Keep.of_wr W2).1
  replace hk := Nat.le_trans hk (Keep.of_wr W2).1
  refine own_gs 10 [(.ref a)] (fun t' k => XS.aloadN X2.here hx rfl (hb hby own_dI_9) rfl rfl  k) ?_
  refine own_gs 11 [(.int x2), (.ref a)] (fun t' k => XS.iloadN X2.here hx rfl (hb hby own_dI_10) rfl  k) ?_
  refine X2.callR hx hZ (y := (⟨"com/example/quotient/quotient/PackedInts", "setWidth", "(I)V"⟩ : MethodName)) hown (hw _ (List.mem_of_getElem? (i := 12) rfl)) (hw _ (List.mem_of_getElem? (i := 2) rfl)) (hw _ (List.mem_of_getElem? (i := 14) rfl)) (hw _ (List.mem_of_getElem? (i := 13) rfl)) (hw _ (List.mem_of_getElem? (i := 3) rfl)) (hw _ (List.mem_of_getElem? (i := 15) rfl)) (by decide) e2 E_a [(.int x2)] [] (own_rmSW l Z a0 hw [] h2 n0 hn a g_a x1 u2 x2 u3 hx63 E_a F_a_length F_a_width F_a_mask F_a_words) 0 (by decide) (by decide) (Nat.le_of_eq rfl) (by decide) (by decide) (by rw [hml]; rfl) (lenOf own_pd2 rfl) rfl (hb hby own_dI_11) ?_
  clear F_a_width F_a_mask F_a_words F_a_length
  rintro T3 _ X3 ⟨rfl, K3, E_a, F_a_width, F_a_mask, F_a_words⟩
  replace hn := Nat.le_trans hn K3.1
  replace hk := Nat.le_trans hk K3.1
  show own_G p e below Fi T3 (mkF m 14 #[rv a, iv x1, iv x2] [])
  refine own_gs 15 [(.ref a)] (fun t' k => XS.aloadN X3.here hx rfl (hb hby own_dI_14) rfl rfl  k) ?_
  refine own_gs 16 [(.int x1), (.ref a)] (fun t' k => XS.iloadN X3.here hx rfl (hb hby own_dI_15) rfl  k) ?_
  refine own_gs 17 [(.int x2), (.int x1), (.ref a)] (fun t' k => XS.iloadN X3.here hx rfl (hb hby own_dI_16) rfl  k) ?_
  refine X3.callSW hx hZ (y := (⟨"com/example/quotient/quotient/PackedInts", "newWords", "(II)[J"⟩ : MethodName)) hown (hw _ (List.mem_of_getElem? (i := 20) rfl)) (hw _ (List.mem_of_getElem? (i := 21) rfl)) (hw _ (List.mem_of_getElem? (i := 3) rfl)) (hw _ (List.mem_of_getElem? (i := 22) rfl)) (by decide) rfl hS hk [(.int x1), (.int x2)] [(.ref a)] (own_rmNW l Z a0 hw [] T3.heap n0 hn x1 x2 N hv hN hN2) 1 (by decide) (by decide) (Nat.le_of_eq rfl) (by decide) (by decide) (by rw [hml]; rfl) (lenOf own_pd3 rfl) rfl (hb hby own_dI_17) ?_
  clear hS hk hZ hown
  rintro T4 _ vm4 k4 X4 ⟨b, rfl, hb4, xt4, A_b⟩ hS hk hZ hown
  have hab : a < b := Nat.lt_of_lt_of_le E_a.lt hb4
  have g_b : n0 ≤ b := Nat.le_trans hn hb4
  replace E_a := E_a.ext xt4
  replace F_a_width := F_a_width.ext xt4
  replace F_a_mask := F_a_mask.ext xt4
  replace F_a_words := F_a_words.ext xt4
  replace hn := Nat.le_trans hn xt4.1
  show own_G p e below Fi T4 (mkF m 20 #[rv a, iv x1, iv x2] [(.ref b), (.ref a)])
  refine X4.putF hx hZ hown (hw _ (List.mem_of_getElem? (i := 42) rfl)) rfl F_a_words E_a g_a (Or.inl (hw _ (List.mem_of_getElem? (i := 43) rfl))) (hw _ (List.mem_of_getElem? (i := 2) rfl)) (ty := (.array .long)) (by decide) rfl rfl (hb hby own_dI_20) ?_
  intro T5 h5 X5 e5 W5
  replace E_a := E_a.wr W5
  replace F_a_width := F_a_width.other W5 (Or.inr (own_sn_PackedInts_width_words hw))
  replace F_a_mask := F_a_mask.other W5 (Or.inr (own_sn_PackedInts_mask_words hw))
  replace F_a_words := F_a_words.same W5
  replace A_b := A_b.other W5 (Ne.symm (Nat.ne_of_lt hab))
  replace hn := Nat.le_trans hn (Keep.of_wr W5).1
  replace hk := Nat.le_trans hk (Keep.of_wr W5).1
  refine X5.retV (hFW _ _ hS) (by first | exact hk | (rw [e5]; exact hk)) hx hlk hret (hb hby own_dI_23) ?_ (by decide) (by decide)
  rw [e5]
  exact ⟨b, rfl, hab, g_b, hn, E_a, F_a_width, F_a_mask, F_a_words, A_b⟩

theorem own_dS_0 : decode prog_140_method_9_code 0 = .ok (.lload_n 2, 1) := by decide +kernel
theorem own_dS_1 : decode prog_140_method_9_code 1 = .ok (.aload_n 0, 1) := by decide +kernel
theorem own_dS_2 : decode prog_140_method_9_code 2 = .ok (.getfield 41, 3) := by decide +kernel
theorem own_dS_5 : decode prog_140_method_9_code 5 = .ok (.lcmp, 1) := by decide +kernel
theorem own_dS_6 : decode prog_140_method_9_code 6 = .ok (.ifCond .le 11, 3) := by decide +kernel
theorem own_dS_17 : decode prog_140_method_9_code 17 = .ok (.iload_n 1, 1) := by decide +kernel
theorem own_dS_18 : decode prog_140_method_9_code 18 = .ok (.i2l, 1) := by decide +kernel
theorem own_dS_19 : decode prog_140_method_9_code 19 = .ok (.aload_n 0, 1) := by decide +kernel
theorem own_dS_20 : decode prog_140_method_9_code 20 = .ok (.getfield 38, 3) := by decide +kernel
theorem own_dS_23 : decode prog_140_method_9_code 23 = .ok (.i2l, 1) := by decide +kernel
theorem own_dS_24 : decode prog_140_method_9_code 24 = .ok (.lmul, 1) := by decide +kernel
theorem own_dS_25 : decode prog_140_method_9_code 25 = .ok (.lstore 4, 2) := by decide +kernel
theorem own_dS_27 : decode prog_140_method_9_code 27 = .ok (.lload 4, 2) := by decide +kernel
theorem own_dS_29 : decode prog_140_method_9_code 29 = .ok (.bipush 6, 2) := by decide +kernel
theorem own_dS_31 : decode prog_140_method_9_code 31 = .ok (.lushr, 1) := by decide +kernel
theorem own_dS_32 : decode prog_140_method_9_code 32 = .ok (.l2i, 1) := by decide +kernel
theorem own_dS_33 : decode prog_140_method_9_code 33 = .ok (.istore 6, 2) := by decide +kernel
theorem own_dS_35 : decode prog_140_method_9_code 35 = .ok (.lload 4, 2) := by decide +kernel
theorem own_dS_37 : decode prog_140_method_9_code 37 = .ok (.l2i, 1) := by decide +kernel
theorem own_dS_38 : decode prog_140_method_9_code 38 = .ok (.bipush 63, 2) := by decide +kernel
theorem own_dS_40 : decode prog_140_method_9_code 40 = .ok (.iand, 1) := by decide +kernel
theorem own_dS_41 : decode prog_140_method_9_code 41 = .ok (.istore 7, 2) := by decide +kernel
theorem own_dS_43 : decode prog_140_method_9_code 43 = .ok (.aload_n 0, 1) := by decide +kernel
theorem own_dS_44 : decode prog_140_method_9_code 44 = .ok (.getfield 21, 3) := by decide +kernel
theorem own_dS_47 : decode prog_140_method_9_code 47 = .ok (.iload 6, 2) := by decide +kernel
theorem own_dS_49 : decode prog_140_method_9_code 49 = .ok (.aload_n 0, 1) := by decide +kernel
theorem own_dS_50 : decode prog_140_method_9_code 50 = .ok (.getfield 21, 3) := by decide +kernel
theorem own_dS_53 : decode prog_140_method_9_code 53 = .ok (.iload 6, 2) := by decide +kernel
theorem own_dS_55 : decode prog_140_method_9_code 55 = .ok (.laload, 1) := by decide +kernel
theorem own_dS_56 : decode prog_140_method_9_code 56 = .ok (.aload_n 0, 1) := by decide +kernel
theorem own_dS_57 : decode prog_140_method_9_code 57 = .ok (.getfield 41, 3) := by decide +kernel
theorem own_dS_60 : decode prog_140_method_9_code 60 = .ok (.iload 7, 2) := by decide +kernel
theorem own_dS_62 : decode prog_140_method_9_code 62 = .ok (.lshl, 1) := by decide +kernel
theorem own_dS_63 : decode prog_140_method_9_code 63 = .ok (.ldc2_w 67, 3) := by decide +kernel
theorem own_dS_66 : decode prog_140_method_9_code 66 = .ok (.lxor, 1) := by decide +kernel
theorem own_dS_67 : decode prog_140_method_9_code 67 = .ok (.land, 1) := by decide +kernel
theorem own_dS_68 : decode prog_140_method_9_code 68 = .ok (.lload_n 2, 1) := by decide +kernel
theorem own_dS_69 : decode prog_140_method_9_code 69 = .ok (.iload 7, 2) := by decide +kernel
theorem own_dS_71 : decode prog_140_method_9_code 71 = .ok (.lshl, 1) := by decide +kernel
theorem own_dS_72 : decode prog_140_method_9_code 72 = .ok (.lor, 1) := by decide +kernel
theorem own_dS_73 : decode prog_140_method_9_code 73 = .ok (.lastore, 1) := by decide +kernel
theorem own_dS_74 : decode prog_140_method_9_code 74 = .ok (.bipush 63, 2) := by decide +kernel
theorem own_dS_76 : decode prog_140_method_9_code 76 = .ok (.iload 7, 2) := by decide +kernel
theorem own_dS_78 : decode prog_140_method_9_code 78 = .ok (.isub, 1) := by decide +kernel
theorem own_dS_79 : decode prog_140_method_9_code 79 = .ok (.istore 8, 2) := by decide +kernel
theorem own_dS_81 : decode prog_140_method_9_code 81 = .ok (.aload_n 0, 1) := by decide +kernel
theorem own_dS_82 : decode prog_140_method_9_code 82 = .ok (.getfield 21, 3) := by decide +kernel
theorem own_dS_85 : decode prog_140_method_9_code 85 = .ok (.iload 6, 2) := by decide +kernel
theorem own_dS_87 : decode prog_140_method_9_code 87 = .ok (.iconst 1, 1) := by decide +kernel
theorem own_dS_88 : decode prog_140_method_9_code 88 = .ok (.iadd, 1) := by decide +kernel
theorem own_dS_89 : decode prog_140_method_9_code 89 = .ok (.aload_n 0, 1) := by decide +kernel
theorem own_dS_90 : decode prog_140_method_9_code 90 = .ok (.getfield 21, 3) := by decide +kernel
theorem own_dS_93 : decode prog_140_method_9_code 93 = .ok (.iload 6, 2) := by decide +kernel
theorem own_dS_95 : decode prog_140_method_9_code 95 = .ok (.iconst 1, 1) := by decide +kernel
theorem own_dS_96 : decode prog_140_method_9_code 96 = .ok (.iadd, 1) := by decide +kernel
theorem own_dS_97 : decode prog_140_method_9_code 97 = .ok (.laload, 1) := by decide +kernel
theorem own_dS_98 : decode prog_140_method_9_code 98 = .ok (.aload_n 0, 1) := by decide +kernel
theorem own_dS_99 : decode prog_140_method_9_code 99 = .ok (.getfield 41, 3) := by decide +kernel
theorem own_dS_102 : decode prog_140_method_9_code 102 = .ok (.iconst 1, 1) := by decide +kernel
theorem own_dS_103 : decode prog_140_method_9_code 103 = .ok (.lushr, 1) := by decide +kernel
theorem own_dS_104 : decode prog_140_method_9_code 104 = .ok (.iload 8, 2) := by decide +kernel
theorem own_dS_106 : decode prog_140_method_9_code 106 = .ok (.lushr, 1) := by decide +kernel
theorem own_dS_107 : decode prog_140_method_9_code 107 = .ok (.ldc2_w 67, 3) := by decide +kernel
theorem own_dS_110 : decode prog_140_method_9_code 110 = .ok (.lxor, 1) := by decide +kernel
theorem own_dS_111 : decode prog_140_method_9_code 111 = .ok (.land, 1) := by decide +kernel
theorem own_dS_112 : decode prog_140_method_9_code 112 = .ok (.lload_n 2, 1) := by decide +kernel
theorem own_dS_113 : decode prog_140_method_9_code 113 = .ok (.iconst 1, 1) := by decide +kernel
theorem own_dS_114 : decode prog_140_method_9_code 114 = .ok (.lushr, 1) := by decide +kernel
theorem own_dS_115 : decode prog_140_method_9_code 115 = .ok (.iload 8, 2) := by decide +kernel
theorem own_dS_117 : decode prog_140_method_9_code 117 = .ok (.lushr, 1) := by decide +kernel
theorem own_dS_118 : decode prog_140_method_9_code 118 = .ok (.lor, 1) := by decide +kernel
theorem own_dS_119 : decode prog_140_method_9_code 119 = .ok (.lastore, 1) := by decide +kernel
theorem own_dS_120 : decode prog_140_method_9_code 120 = .ok (.return_, 1) := by decide +kernel
theorem own_pn_own_rmS : plainFor (⟨"com/example/quotient/quotient/PackedInts", "set", "(IJ)V"⟩ : MethodName) = true := plainFor_of_name (show plainName "com/example/quotient/quotient/PackedInts" = true by first | (simp [plainName, overriddenIn]; done) | decide +kernel)
set_option maxRecDepth 65536 in
set_option maxHeartbeats 40000000 in
theorem own_rmS (l : Launch) (Z : State) (a0 : Array Value) (hw : ∀ d ∈ tables_1, d.before a0 Z = true) (ws : List Jvm.Cond) (h0 : Heap) (n0 : Nat) (Z0 : n0 ≤ h0.size) (a b : Addr) (hab : a < b) (g_b : n0 ≤ b) (N : Nat) (f : Nat → Int64) (x wd : Int32) (mk v : Int64) (W : Nat) (hW : ((((x.toInt64 * wd.toInt64).toUInt64 >>> ((6 : Int32) &&& 0x3f).toInt64.toUInt64).toInt64).toInt32).toInt = W) (hW1 : W + 1 < N) (hW2 : W < 100000) (A_b : own_L Z h0 b N f) (E_a : Exa Z h0 a "com/example/quotient/quotient/PackedInts") (F_a_width : Fld Z h0 a "com/example/quotient/quotient/PackedInts" "width" "I" (.int wd)) (F_a_mask : Fld Z h0 a "com/example/quotient/quotient/PackedInts" "mask" "J" (.long mk)) (F_a_words : Fld Z h0 a "com/example/quotient/quotient/PackedInts" "words" "[J" (.ref b)) (hvm : ¬ mk < v)  :
    own_C l Z (⟨"com/example/quotient/quotient/PackedInts", "set", "(IJ)V"⟩ : MethodName) prog_140_method_9_code 9 none ws ({ frames := 0, cells := 0, slots := 0, locals := 0 } : Room) #[(.ref a), (.int x), (.long v)] h0 (own_Q n0 (fun v' h => v' = none ∧ Keep h0 h [b] ∧ own_L Z h b N (own_setf f W (own_off x wd) mk v))) := by
  refine own_met own_pn_own_rmS #[rv a, iv x, jv v, .second, .unset, .unset, .unset, .unset, .unset] (fun m => by first | (simp [entryFrame, mkF, argsToLocals, Value.category]; done) | rfl) ?_
  intro p e s m below meth c s₁ Fi hx hby hml hown hret hlk hZ hnm hF X0 e0
  replace X0 := own_S.of X0 (n0)
  have hn : n0 ≤ h0.size := Z0
  have hK := Keep.refl h0 [b]
  refine own_gs 1 [(.long v)] (fun t' k => XS.lloadN X0.here hx rfl (hb hby own_dS_0) rfl  k) ?_
  refine own_gs 2 [(.ref a), (.long v)] (fun t' k => XS.aloadN X0.here hx rfl (hb hby own_dS_1) rfl rfl  k) ?_
  refine X0.getF hx hZ hown (hw _ (List.mem_of_getElem? (i := 18) rfl)) e0 F_a_mask (hb hby own_dS_2) ?_
  intro T1 X1 e1
  refine own_gs 6 [(.int (lcmpW v mk))] (fun t' k => XS.lcmp X1.here hx rfl (hb hby own_dS_5) rfl k) ?_
  refine own_gs 17 [] (fun t' k => XS.ifYes X1.here hx rfl (pc0 := 6) (pc' := 17) rfl (hb hby own_dS_6) rfl ((if0 _ _).trans (flt (fun q' => hvm ((lw_gt v mk).mp q'))).2.2.2) (by decide) (by decide) k) ?_
  refine own_gs 18 [(.int x)] (fun t' k => XS.iloadN X1.here hx rfl (hb hby own_dS_17) rfl  k) ?_
  refine own_gs 19 [(.long (x.toInt64))] (fun t' k => XS.i2l X1.here hx rfl (hb hby own_dS_18) rfl k) ?_
  refine own_gs 20 [(.ref a), (.long (x.toInt64))] (fun t' k => XS.aloadN X1.here hx rfl (hb hby own_dS_19) rfl rfl  k) ?_
  refine X1.getF hx hZ hown (hw _ (List.mem_of_getElem? (i := 16) rfl)) e1 F_a_width (hb hby own_dS_20) ?_
  intro T2 X2 e2
  refine own_gs 24 [(.long (wd.toInt64)), (.long (x.toInt64))] (fun t' k => XS.i2l X2.here hx rfl (hb hby own_dS_23) rfl k) ?_
  refine own_gs 25 [(.long ((x.toInt64) * (wd.toInt64)))] (fun t' k => XS.lmul X2.here hx rfl (hb hby own_dS_24) rfl k) ?_
  refine own_go (mkF m 27 #[rv a, iv x, jv v, .second, jv ((x.toInt64) * (wd.toInt64)), .second, .unset, .unset, .unset] []) (fun t' k => XS.lstore X2.here hx rfl (hb hby own_dS_25) rfl rfl k) ?_
  refine own_gs 29 [(.long ((x.toInt64) * (wd.toInt64)))] (fun t' k => XS.lload X2.here hx rfl (hb hby own_dS_27) rfl  k) ?_
  refine own_gs 31 [(.int (6 : Int32)), (.long ((x.toInt64) * (wd.toInt64)))] (fun t' k => XS.bipush X2.here hx rfl (hb hby own_dS_29) k) ?_
  refine own_gs 32 [(.long ((((x.toInt64) * (wd.toInt64)).toUInt64 >>> ((6 : Int32) &&& 0x3f).toInt64.toUInt64).toInt64))] (fun t' k => XS.lushr X2.here hx rfl (hb hby own_dS_31) rfl k) ?_
  refine own_gs 33 [(.int (((((x.toInt64) * (wd.toInt64)).toUInt64 >>> ((6 : Int32) &&& 0x3f).toInt64.toUInt64).toInt64).toInt32))] (fun t' k => XS.l2i X2.here hx rfl (hb hby own_dS_32) rfl k) ?_
  refine own_go (mkF m 35 #[rv a, iv x, jv v, .second, jv ((x.toInt64) * (wd.toInt64)), .second, iv (((((x.toInt64) * (wd.toInt64)).toUInt64 >>> ((6 : Int32) &&& 0x3f).toInt64.toUInt64).toInt64).toInt32), .unset, .unset] []) (fun t' k => XS.istore X2.here hx rfl (hb hby own_dS_33) rfl rfl k) ?_
  have hwx : ((((((x.toInt64) * (wd.toInt64)).toUInt64 >>> ((6 : Int32) &&& 0x3f).toInt64.toUInt64).toInt64).toInt32)).toInt = (W : Int) := hW
  generalize (((((x.toInt64) * (wd.toInt64)).toUInt64 >>> ((6 : Int32) &&& 0x3f).toInt64.toUInt64).toInt64).toInt32) = wx at hwx ⊢
  refine own_gs 37 [(.long ((x.toInt64) * (wd.toInt64)))] (fun t' k => XS.lload X2.here hx rfl (hb hby own_dS_35) rfl  k) ?_
  refine own_gs 38 [(.int (((x.toInt64) * (wd.toInt64)).toInt32))] (fun t' k => XS.l2i X2.here hx rfl (hb hby own_dS_37) rfl k) ?_
  refine own_gs 40 [(.int (63 : Int32)), (.int (((x.toInt64) * (wd.toInt64)).toInt32))] (fun t' k => XS.bipush X2.here hx rfl (hb hby own_dS_38) k) ?_
  refine own_gs 41 [(.int ((((x.toInt64) * (wd.toInt64)).toInt32) &&& (63 : Int32)))] (fun t' k => XS.iand X2.here hx rfl (hb hby own_dS_40) rfl k) ?_
  refine own_go (mkF m 43 #[rv a, iv x, jv v, .second, jv ((x.toInt64) * (wd.toInt64)), .second, iv wx, iv ((((x.toInt64) * (wd.toInt64)).toInt32) &&& (63 : Int32)), .unset] []) (fun t' k => XS.istore X2.here hx rfl (hb hby own_dS_41) rfl rfl k) ?_
  refine own_gs 44 [(.ref a)] (fun t' k => XS.aloadN X2.here hx rfl (hb hby own_dS_43) rfl rfl  k) ?_
  refine X2.getF hx hZ hown (hw _ (List.mem_of_getElem? (i := 42) rfl)) e2 F_a_words (hb hby own_dS_44) ?_
  intro T3 X3 e3
  refine own_gs 49 [(.int wx), (.ref b)] (fun t' k => XS.iload X3.here hx rfl (hb hby own_dS_47) rfl  k) ?_
  refine own_gs 50 [(.ref a), (.int wx), (.ref b)] (fun t' k => XS.aloadN X3.here hx rfl (hb hby own_dS_49) rfl rfl  k) ?_
  refine X3.getF hx hZ hown (hw _ (List.mem_of_getElem? (i := 42) rfl)) e3 F_a_words (hb hby own_dS_50) ?_
  intro T4 X4 e4
  refine own_gs 55 [(.int wx), (.ref b), (.int wx), (.ref b)] (fun t' k => XS.iload X4.here hx rfl (hb hby own_dS_53) rfl  k) ?_
  refine X4.ldJf hx hZ e4 A_b W hwx (by omega) (hb hby own_dS_55) ?_
  refine own_gs 57 [(.ref a), (.long (f W)), (.int wx), (.ref b)] (fun t' k => XS.aloadN X4.here hx rfl (hb hby own_dS_56) rfl rfl  k) ?_
  refine X4.getF hx hZ hown (hw _ (List.mem_of_getElem? (i := 18) rfl)) e4 F_a_mask (hb hby own_dS_57) ?_
  intro T5 X5 e5
  refine own_gs 62 [(.int ((((x.toInt64) * (wd.toInt64)).toInt32) &&& (63 : Int32))), (.long mk), (.long (f W)), (.int wx), (.ref b)] (fun t' k => XS.iload X5.here hx rfl (hb hby own_dS_60) rfl  k) ?_
  refine own_gs 63 [(.long (mk <<< (((((x.toInt64) * (wd.toInt64)).toInt32) &&& (63 : Int32)) &&& 0x3f).toInt64)), (.long (f W)), (.int wx), (.ref b)] (fun t' k => XS.lshl X5.here hx rfl (hb hby own_dS_62) rfl k) ?_
  refine own_gs 66 [(.long (-1 : Int64)), (.long (mk <<< (((((x.toInt64) * (wd.toInt64)).toInt32) &&& (63 : Int32)) &&& 0x3f).toInt64)), (.long (f W)), (.int wx), (.ref b)] (fun t' k => X5.ldc2Long hx hown (mvT hZ (hw _ (List.mem_of_getElem? (i := 49) rfl))) (g := (mkF m 63 #[rv a, iv x, jv v, .second, jv ((x.toInt64) * (wd.toInt64)), .second, iv wx, iv ((((x.toInt64) * (wd.toInt64)).toInt32) &&& (63 : Int32)), .unset] [(.long (mk <<< (((((x.toInt64) * (wd.toInt64)).toInt32) &&& (63 : Int32)) &&& 0x3f).toInt64)), (.long (f W)), (.int wx), (.ref b)])) rfl (hb hby own_dS_63) _ k) ?_
  refine own_gs 67 [(.long ((mk <<< (((((x.toInt64) * (wd.toInt64)).toInt32) &&& (63 : Int32)) &&& 0x3f).toInt64) ^^^ (-1 : Int64))), (.long (f W)), (.int wx), (.ref b)] (fun t' k => XS.lxor X5.here hx rfl (hb hby own_dS_66) rfl k) ?_
  refine own_gs 68 [(.long ((f W) &&& ((mk <<< (((((x.toInt64) * (wd.toInt64)).toInt32) &&& (63 : Int32)) &&& 0x3f).toInt64) ^^^ (-1 : Int64)))), (.int wx), (.ref b)] (fun t' k => XS.land X5.here hx rfl (hb hby own_dS_67) rfl k) ?_
  refine own_gs 69 [(.long v), (.long ((f W) &&& ((mk <<< (((((x.toInt64) * (wd.toInt64)).toInt32) &&& (63 : Int32)) &&& 0x3f).toInt64) ^^^ (-1 : Int64)))), (.int wx), (.ref b)] (fun t' k => XS.lloadN X5.here hx rfl (hb hby own_dS_68) rfl  k) ?_
  refine own_gs 71 [(.int ((((x.toInt64) * (wd.toInt64)).toInt32) &&& (63 : Int32))), (.long v), (.long ((f W) &&& ((mk <<< (((((x.toInt64) * (wd.toInt64)).toInt32) &&& (63 : Int32)) &&& 0x3f).toInt64) ^^^ (-1 : Int64)))), (.int wx), (.ref b)] (fun t' k => XS.iload X5.here hx rfl (hb hby own_dS_69) rfl  k) ?_
  refine own_gs 72 [(.long (v <<< (((((x.toInt64) * (wd.toInt64)).toInt32) &&& (63 : Int32)) &&& 0x3f).toInt64)), (.long ((f W) &&& ((mk <<< (((((x.toInt64) * (wd.toInt64)).toInt32) &&& (63 : Int32)) &&& 0x3f).toInt64) ^^^ (-1 : Int64)))), (.int wx), (.ref b)] (fun t' k => XS.lshl X5.here hx rfl (hb hby own_dS_71) rfl k) ?_
  refine own_gs 73 [(.long (((f W) &&& ((mk <<< (((((x.toInt64) * (wd.toInt64)).toInt32) &&& (63 : Int32)) &&& 0x3f).toInt64) ^^^ (-1 : Int64))) ||| (v <<< (((((x.toInt64) * (wd.toInt64)).toInt32) &&& (63 : Int32)) &&& 0x3f).toInt64))), (.int wx), (.ref b)] (fun t' k => XS.lor X5.here hx rfl (hb hby own_dS_72) rfl k) ?_
  refine X5.stJf hx hZ e5 A_b g_b W hwx (by omega) (hb hby own_dS_73) ?_
  intro T6 h6 X6 e6 W6 A6
  replace A_b := A6
  replace E_a := E_a.wr W6
  replace F_a_width := F_a_width.other W6 (Or.inl (Nat.ne_of_lt hab))
  replace F_a_mask := F_a_mask.other W6 (Or.inl (Nat.ne_of_lt hab))
  replace F_a_words := F_a_words.other W6 (Or.inl (Nat.ne_of_lt hab))
  replace hn := Nat.le_trans hn (Keep.of_wr W6).1
  replace hK := hK.wr W6 (Or.inl (List.mem_of_getElem? (i := 0) rfl))
  refine own_gs 76 [(.int (63 : Int32))] (fun t' k => XS.bipush X6.here hx rfl (hb hby own_dS_74) k) ?_
  refine own_gs 78 [(.int ((((x.toInt64) * (wd.toInt64)).toInt32) &&& (63 : Int32))), (.int (63 : Int32))] (fun t' k => XS.iload X6.here hx rfl (hb hby own_dS_76) rfl  k) ?_
  refine own_gs 79 [(.int ((63 : Int32) - ((((x.toInt64) * (wd.toInt64)).toInt32) &&& (63 : Int32))))] (fun t' k => XS.isub X6.here hx rfl (hb hby own_dS_78) rfl k) ?_
  refine own_go (mkF m 81 #[rv a, iv x, jv v, .second, jv ((x.toInt64) * (wd.toInt64)), .second, iv wx, iv ((((x.toInt64) * (wd.toInt64)).toInt32) &&& (63 : Int32)), iv ((63 : Int32) - ((((x.toInt64) * (wd.toInt64)).toInt32) &&& (63 : Int32)))] []) (fun t' k => XS.istore X6.here hx rfl (hb hby own_dS_79) rfl rfl k) ?_
  refine own_gs 82 [(.ref a)] (fun t' k => XS.aloadN X6.here hx rfl (hb hby own_dS_81) rfl rfl  k) ?_
  refine X6.getF hx hZ hown (hw _ (List.mem_of_getElem? (i := 42) rfl)) e6 F_a_words (hb hby own_dS_82) ?_
  intro T7 X7 e7
  refine own_gs 87 [(.int wx), (.ref b)] (fun t' k => XS.iload X7.here hx rfl (hb hby own_dS_85) rfl  k) ?_
  refine own_gs 88 [(.int (1 : Int32)), (.int wx), (.ref b)] (fun t' k => XS.iconst X7.here hx rfl (hb hby own_dS_87) k) ?_
  refine own_gs 89 [(.int (wx + (1 : Int32))), (.ref b)] (fun t' k => XS.iadd X7.here hx rfl (hb hby own_dS_88) rfl k) ?_
  refine own_gs 90 [(.ref a), (.int (wx + (1 : Int32))), (.ref b)] (fun t' k => XS.aloadN X7.here hx rfl (hb hby own_dS_89) rfl rfl  k) ?_
  refine X7.getF hx hZ hown (hw _ (List.mem_of_getElem? (i := 42) rfl)) e7 F_a_words (hb hby own_dS_90) ?_
  intro T8 X8 e8
  refine own_gs 95 [(.int wx), (.ref b), (.int (wx + (1 : Int32))), (.ref b)] (fun t' k => XS.iload X8.here hx rfl (hb hby own_dS_93) rfl  k) ?_
  refine own_gs 96 [(.int (1 : Int32)), (.int wx), (.ref b), (.int (wx + (1 : Int32))), (.ref b)] (fun t' k => XS.iconst X8.here hx rfl (hb hby own_dS_95) k) ?_
  refine own_gs 97 [(.int (wx + (1 : Int32))), (.ref b), (.int (wx + (1 : Int32))), (.ref b)] (fun t' k => XS.iadd X8.here hx rfl (hb hby own_dS_96) rfl k) ?_
  refine X8.ldJf hx hZ e8 A_b (W + 1) (own_i1 hwx hW2) hW1 (hb hby own_dS_97) ?_
  refine own_gs 99 [(.ref a), (.long ((own_up f W (((f W) &&& ((mk <<< (((((x.toInt64) * (wd.toInt64)).toInt32) &&& (63 : Int32)) &&& 0x3f).toInt64) ^^^ (-1 : Int64))) ||| (v <<< (((((x.toInt64) * (wd.toInt64)).toInt32) &&& (63 : Int32)) &&& 0x3f).toInt64))) (W + 1))), (.int (wx + (1 : Int32))), (.ref b)] (fun t' k => XS.aloadN X8.here hx rfl (hb hby own_dS_98) rfl rfl  k) ?_
  refine X8.getF hx hZ hown (hw _ (List.mem_of_getElem? (i := 18) rfl)) e8 F_a_mask (hb hby own_dS_99) ?_
  intro T9 X9 e9
  refine own_gs 103 [(.int (1 : Int32)), (.long mk), (.long ((own_up f W (((f W) &&& ((mk <<< (((((x.toInt64) * (wd.toInt64)).toInt32) &&& (63 : Int32)) &&& 0x3f).toInt64) ^^^ (-1 : Int64))) ||| (v <<< (((((x.toInt64) * (wd.toInt64)).toInt32) &&& (63 : Int32)) &&& 0x3f).toInt64))) (W + 1))), (.int (wx + (1 : Int32))), (.ref b)] (fun t' k => XS.iconst X9.here hx rfl (hb hby own_dS_102) k) ?_
  refine own_gs 104 [(.long ((mk.toUInt64 >>> ((1 : Int32) &&& 0x3f).toInt64.toUInt64).toInt64)), (.long ((own_up f W (((f W) &&& ((mk <<< (((((x.toInt64) * (wd.toInt64)).toInt32) &&& (63 : Int32)) &&& 0x3f).toInt64) ^^^ (-1 : Int64))) ||| (v <<< (((((x.toInt64) * (wd.toInt64)).toInt32) &&& (63 : Int32)) &&& 0x3f).toInt64))) (W + 1))), (.int (wx + (1 : Int32))), (.ref b)] (fun t' k => XS.lushr X9.here hx rfl (hb hby own_dS_103) rfl k) ?_
  refine own_gs 106 [(.int ((63 : Int32) - ((((x.toInt64) * (wd.toInt64)).toInt32) &&& (63 : Int32)))), (.long ((mk.toUInt64 >>> ((1 : Int32) &&& 0x3f).toInt64.toUInt64).toInt64)), (.long ((own_up f W (((f W) &&& ((mk <<< (((((x.toInt64) * (wd.toInt64)).toInt32) &&& (63 : Int32)) &&& 0x3f).toInt64) ^^^ (-1 : Int64))) ||| (v <<< (((((x.toInt64) * (wd.toInt64)).toInt32) &&& (63 : Int32)) &&& 0x3f).toInt64))) (W + 1))), (.int (wx + (1 : Int32))), (.ref b)] (fun t' k => XS.iload X9.here hx rfl (hb hby own_dS_104) rfl  k) ?_
  refine own_gs 107 [(.long ((((mk.toUInt64 >>> ((1 : Int32) &&& 0x3f).toInt64.toUInt64).toInt64).toUInt64 >>> (((63 : Int32) - ((((x.toInt64) * (wd.toInt64)).toInt32) &&& (63 : Int32))) &&& 0x3f).toInt64.toUInt64).toInt64)), (.long ((own_up f W (((f W) &&& ((mk <<< (((((x.toInt64) * (wd.toInt64)).toInt32) &&& (63 : Int32)) &&& 0x3f).toInt64) ^^^ (-1 : Int64))) ||| (v <<< (((((x.toInt64) * (wd.toInt64)).toInt32) &&& (63 : Int32)) &&& 0x3f).toInt64))) (W + 1))), (.int (wx + (1 : Int32))), (.ref b)] (fun t' k => XS.lushr X9.here hx rfl (hb hby own_dS_106) rfl k) ?_
  refine own_gs 110 [(.long (-1 : Int64)), (.long ((((mk.toUInt64 >>> ((1 : Int32) &&& 0x3f).toInt64.toUInt64).toInt64).toUInt64 >>> (((63 : Int32) - ((((x.toInt64) * (wd.toInt64)).toInt32) &&& (63 : Int32))) &&& 0x3f).toInt64.toUInt64).toInt64)), (.long ((own_up f W (((f W) &&& ((mk <<< (((((x.toInt64) * (wd.toInt64)).toInt32) &&& (63 : Int32)) &&& 0x3f).toInt64) ^^^ (-1 : Int64))) ||| (v <<< (((((x.toInt64) * (wd.toInt64)).toInt32) &&& (63 : Int32)) &&& 0x3f).toInt64))) (W + 1))), (.int (wx + (1 : Int32))), (.ref b)] (fun t' k => X9.ldc2Long hx hown (mvT hZ (hw _ (List.mem_of_getElem? (i := 49) rfl))) (g := (mkF m 107 #[rv a, iv x, jv v, .second, jv ((x.toInt64) * (wd.toInt64)), .second, iv wx, iv ((((x.toInt64) * (wd.toInt64)).toInt32) &&& (63 : Int32)), iv ((63 : Int32) - ((((x.toInt64) * (wd.toInt64)).toInt32) &&& (63 : Int32)))] [(.long ((((mk.toUInt64 >>> ((1 : Int32) &&& 0x3f).toInt64.toUInt64).toInt64).toUInt64 >>> (((63 : Int32) - ((((x.toInt64) * (wd.toInt64)).toInt32) &&& (63 : Int32))) &&& 0x3f).toInt64.toUInt64).toInt64)), (.long ((own_up f W (((f W) &&& ((mk <<< (((((x.toInt64) * (wd.toInt64)).toInt32) &&& (63 : Int32)) &&& 0x3f).toInt64) ^^^ (-1 : Int64))) ||| (v <<< (((((x.toInt64) * (wd.toInt64)).toInt32) &&& (63 : Int32)) &&& 0x3f).toInt64))) (W + 1))), (.int (wx + (1 : Int32))), (.ref b)])) rfl (hb hby own_dS_107) _ k) ?_
  refine own_gs 111 [(.long (((((mk.toUInt64 >>> ((1 : Int32) &&& 0x3f).toInt64.toUInt64).toInt64).toUInt64 >>> (((63 : Int32) - ((((x.toInt64) * (wd.toInt64)).toInt32) &&& (63 : Int32))) &&& 0x3f).toInt64.toUInt64).toInt64) ^^^ (-1 : Int64))), (.long ((own_up f W (((f W) &&& ((mk <<< (((((x.toInt64) * (wd.toInt64)).toInt32) &&& (63 : Int32)) &&& 0x3f).toInt64) ^^^ (-1 : Int64))) ||| (v <<< (((((x.toInt64) * (wd.toInt64)).toInt32) &&& (63 : Int32)) &&& 0x3f).toInt64))) (W + 1))), (.int (wx + (1 : Int32))), (.ref b)] (fun t' k => XS.lxor X9.here hx rfl (hb hby own_dS_110) rfl k) ?_
  refine own_gs 112 [(.long (((own_up f W (((f W) &&& ((mk <<< (((((x.toInt64) * (wd.toInt64)).toInt32) &&& (63 : Int32)) &&& 0x3f).toInt64) ^^^ (-1 : Int64))) ||| (v <<< (((((x.toInt64) * (wd.toInt64)).toInt32) &&& (63 : Int32)) &&& 0x3f).toInt64))) (W + 1)) &&& (((((mk.toUInt64 >>> ((1 : Int32) &&& 0x3f).toInt64.toUInt64).toInt64).toUInt64 >>> (((63 : Int32) - ((((x.toInt64) * (wd.toInt64)).toInt32) &&& (63 : Int32))) &&& 0x3f).toInt64.toUInt64).toInt64) ^^^ (-1 : Int64)))), (.int (wx + (1 : Int32))), (.ref b)] (fun t' k => XS.land X9.here hx rfl (hb hby own_dS_111) rfl k) ?_
  refine own_gs 113 [(.long v), (.long (((own_up f W (((f W) &&& ((mk <<< (((((x.toInt64) * (wd.toInt64)).toInt32) &&& (63 : Int32)) &&& 0x3f).toInt64) ^^^ (-1 : Int64))) ||| (v <<< (((((x.toInt64) * (wd.toInt64)).toInt32) &&& (63 : Int32)) &&& 0x3f).toInt64))) (W + 1)) &&& (((((mk.toUInt64 >>> ((1 : Int32) &&& 0x3f).toInt64.toUInt64).toInt64).toUInt64 >>> (((63 : Int32) - ((((x.toInt64) * (wd.toInt64)).toInt32) &&& (63 : Int32))) &&& 0x3f).toInt64.toUInt64).toInt64) ^^^ (-1 : Int64)))), (.int (wx + (1 : Int32))), (.ref b)] (fun t' k => XS.lloadN X9.here hx rfl (hb hby own_dS_112) rfl  k) ?_
  refine own_gs 114 [(.int (1 : Int32)), (.long v), (.long (((own_up f W (((f W) &&& ((mk <<< (((((x.toInt64) * (wd.toInt64)).toInt32) &&& (63 : Int32)) &&& 0x3f).toInt64) ^^^ (-1 : Int64))) ||| (v <<< (((((x.toInt64) * (wd.toInt64)).toInt32) &&& (63 : Int32)) &&& 0x3f).toInt64))) (W + 1)) &&& (((((mk.toUInt64 >>> ((1 : Int32) &&& 0x3f).toInt64.toUInt64).toInt64).toUInt64 >>> (((63 : Int32) - ((((x.toInt64) * (wd.toInt64)).toInt32) &&& (63 : Int32))) &&& 0x3f).toInt64.toUInt64).toInt64) ^^^ (-1 : Int64)))), (.int (wx + (1 : Int32))), (.ref b)] (fun t' k => XS.iconst X9.here hx rfl (hb hby own_dS_113) k) ?_
  refine own_gs 115 [(.long ((v.toUInt64 >>> ((1 : Int32) &&& 0x3f).toInt64.toUInt64).toInt64)), (.long (((own_up f W (((f W) &&& ((mk <<< (((((x.toInt64) * (wd.toInt64)).toInt32) &&& (63 : Int32)) &&& 0x3f).toInt64) ^^^ (-1 : Int64))) ||| (v <<< (((((x.toInt64) * (wd.toInt64)).toInt32) &&& (63 : Int32)) &&& 0x3f).toInt64))) (W + 1)) &&& (((((mk.toUInt64 >>> ((1 : Int32) &&& 0x3f).toInt64.toUInt64).toInt64).toUInt64 >>> (((63 : Int32) - ((((x.toInt64) * (wd.toInt64)).toInt32) &&& (63 : Int32))) &&& 0x3f).toInt64.toUInt64).toInt64) ^^^ (-1 : Int64)))), (.int (wx + (1 : Int32))), (.ref b)] (fun t' k => XS.lushr X9.here hx rfl (hb hby own_dS_114) rfl k) ?_
  refine own_gs 117 [(.int ((63 : Int32) - ((((x.toInt64) * (wd.toInt64)).toInt32) &&& (63 : Int32)))), (.long ((v.toUInt64 >>> ((1 : Int32) &&& 0x3f).toInt64.toUInt64).toInt64)), (.long (((own_up f W (((f W) &&& ((mk <<< (((((x.toInt64) * (wd.toInt64)).toInt32) &&& (63 : Int32)) &&& 0x3f).toInt64) ^^^ (-1 : Int64))) ||| (v <<< (((((x.toInt64) * (wd.toInt64)).toInt32) &&& (63 : Int32)) &&& 0x3f).toInt64))) (W + 1)) &&& (((((mk.toUInt64 >>> ((1 : Int32) &&& 0x3f).toInt64.toUInt64).toInt64).toUInt64 >>> (((63 : Int32) - ((((x.toInt64) * (wd.toInt64)).toInt32) &&& (63 : Int32))) &&& 0x3f).toInt64.toUInt64).toInt64) ^^^ (-1 : Int64)))), (.int (wx + (1 : Int32))), (.ref b)] (fun t' k => XS.iload X9.here hx rfl (hb hby own_dS_115) rfl  k) ?_
  refine own_gs 118 [(.long ((((v.toUInt64 >>> ((1 : Int32) &&& 0x3f).toInt64.toUInt64).toInt64).toUInt64 >>> (((63 : Int32) - ((((x.toInt64) * (wd.toInt64)).toInt32) &&& (63 : Int32))) &&& 0x3f).toInt64.toUInt64).toInt64)), (.long (((own_up f W (((f W) &&& ((mk <<< (((((x.toInt64) * (wd.toInt64)).toInt32) &&& (63 : Int32)) &&& 0x3f).toInt64) ^^^ (-1 : Int64))) ||| (v <<< (((((x.toInt64) * (wd.toInt64)).toInt32) &&& (63 : Int32)) &&& 0x3f).toInt64))) (W + 1)) &&& (((((mk.toUInt64 >>> ((1 : Int32) &&& 0x3f).toInt64.toUInt64).toInt64).toUInt64 >>> (((63 : Int32) - ((((x.toInt64) * (wd.toInt64)).toInt32) &&& (63 : Int32))) &&& 0x3f).toInt64.toUInt64).toInt64) ^^^ (-1 : Int64)))), (.int (wx + (1 : Int32))), (.ref b)] (fun t' k => XS.lushr X9.here hx rfl (hb hby own_dS_117) rfl k) ?_
  refine own_gs 119 [(.long ((((own_up f W (((f W) &&& ((mk <<< (((((x.toInt64) * (wd.toInt64)).toInt32) &&& (63 : Int32)) &&& 0x3f).toInt64) ^^^ (-1 : Int64))) ||| (v <<< (((((x.toInt64) * (wd.toInt64)).toInt32) &&& (63 : Int32)) &&& 0x3f).toInt64))) (W + 1)) &&& (((((mk.toUInt64 >>> ((1 : Int32) &&& 0x3f).toInt64.toUInt64).toInt64).toUInt64 >>> (((63 : Int32) - ((((x.toInt64) * (wd.toInt64)).toInt32) &&& (63 : Int32))) &&& 0x3f).toInt64.toUInt64).toInt64) ^^^ (-1 : Int64))) ||| ((((v.toUInt64 >>> ((1 : Int32) &&& 0x3f).toInt64.toUInt64).toInt64).toUInt64 >>> (((63 : Int32) - ((((x.toInt64) * (wd.toInt64)).toInt32) &&& (63 : Int32))) &&& 0x3f).toInt64.toUInt64).toInt64))), (.int (wx + (1 : Int32))), (.ref b)] (fun t' k => XS.lor X9.here hx rfl (hb hby own_dS_118) rfl k) ?_
  refine X9.stJf hx hZ e9 A_b g_b (W + 1) (own_i1 hwx hW2) hW1 (hb hby own_dS_119) ?_
  intro T10 h10 X10 e10 W10 A10
  replace A_b := A10
  replace E_a := E_a.wr W10
  replace F_a_width := F_a_width.other W10 (Or.inl (Nat.ne_of_lt hab))
  replace F_a_mask := F_a_mask.other W10 (Or.inl (Nat.ne_of_lt hab))
  replace F_a_words := F_a_words.other W10 (Or.inl (Nat.ne_of_lt hab))
  replace hn := Nat.le_trans hn (Keep.of_wr W10).1
  replace hK := hK.wr W10 (Or.inl (List.mem_of_getElem? (i := 0) rfl))
  refine X10.retV hF (Nat.zero_le _) hx hlk hret (hb hby own_dS_120) ?_ (by decide) (by decide)
  rw [e10]
  exact ⟨rfl, hK, A_b⟩

theorem own_dG_0 : decode prog_140_method_8_code 0 = .ok (.iload_n 1, 1) := by decide +kernel
theorem own_dG_1 : decode prog_140_method_8_code 1 = .ok (.i2l, 1) := by decide +kernel
theorem own_dG_2 : decode prog_140_method_8_code 2 = .ok (.aload_n 0, 1) := by decide +kernel
theorem own_dG_3 : decode prog_140_method_8_code 3 = .ok (.getfield 38, 3) := by decide +kernel
theorem own_dG_6 : decode prog_140_method_8_code 6 = .ok (.i2l, 1) := by decide +kernel
theorem own_dG_7 : decode prog_140_method_8_code 7 = .ok (.lmul, 1) := by decide +kernel
theorem own_dG_8 : decode prog_140_method_8_code 8 = .ok (.lstore_n 2, 1) := by decide +kernel
theorem own_dG_9 : decode prog_140_method_8_code 9 = .ok (.lload_n 2, 1) := by decide +kernel
theorem own_dG_10 : decode prog_140_method_8_code 10 = .ok (.bipush 6, 2) := by decide +kernel
theorem own_dG_12 : decode prog_140_method_8_code 12 = .ok (.lushr, 1) := by decide +kernel
theorem own_dG_13 : decode prog_140_method_8_code 13 = .ok (.l2i, 1) := by decide +kernel
theorem own_dG_14 : decode prog_140_method_8_code 14 = .ok (.istore 4, 2) := by decide +kernel
theorem own_dG_16 : decode prog_140_method_8_code 16 = .ok (.lload_n 2, 1) := by decide +kernel
theorem own_dG_17 : decode prog_140_method_8_code 17 = .ok (.l2i, 1) := by decide +kernel
theorem own_dG_18 : decode prog_140_method_8_code 18 = .ok (.bipush 63, 2) := by decide +kernel
theorem own_dG_20 : decode prog_140_method_8_code 20 = .ok (.iand, 1) := by decide +kernel
theorem own_dG_21 : decode prog_140_method_8_code 21 = .ok (.istore 5, 2) := by decide +kernel
theorem own_dG_23 : decode prog_140_method_8_code 23 = .ok (.aload_n 0, 1) := by decide +kernel
theorem own_dG_24 : decode prog_140_method_8_code 24 = .ok (.getfield 21, 3) := by decide +kernel
theorem own_dG_27 : decode prog_140_method_8_code 27 = .ok (.iload 4, 2) := by decide +kernel
theorem own_dG_29 : decode prog_140_method_8_code 29 = .ok (.laload, 1) := by decide +kernel
theorem own_dG_30 : decode prog_140_method_8_code 30 = .ok (.iload 5, 2) := by decide +kernel
theorem own_dG_32 : decode prog_140_method_8_code 32 = .ok (.lushr, 1) := by decide +kernel
theorem own_dG_33 : decode prog_140_method_8_code 33 = .ok (.aload_n 0, 1) := by decide +kernel
theorem own_dG_34 : decode prog_140_method_8_code 34 = .ok (.getfield 21, 3) := by decide +kernel
theorem own_dG_37 : decode prog_140_method_8_code 37 = .ok (.iload 4, 2) := by decide +kernel
theorem own_dG_39 : decode prog_140_method_8_code 39 = .ok (.iconst 1, 1) := by decide +kernel
theorem own_dG_40 : decode prog_140_method_8_code 40 = .ok (.iadd, 1) := by decide +kernel
theorem own_dG_41 : decode prog_140_method_8_code 41 = .ok (.laload, 1) := by decide +kernel
theorem own_dG_42 : decode prog_140_method_8_code 42 = .ok (.iconst 1, 1) := by decide +kernel
theorem own_dG_43 : decode prog_140_method_8_code 43 = .ok (.lshl, 1) := by decide +kernel
theorem own_dG_44 : decode prog_140_method_8_code 44 = .ok (.bipush 63, 2) := by decide +kernel
theorem own_dG_46 : decode prog_140_method_8_code 46 = .ok (.iload 5, 2) := by decide +kernel
theorem own_dG_48 : decode prog_140_method_8_code 48 = .ok (.isub, 1) := by decide +kernel
theorem own_dG_49 : decode prog_140_method_8_code 49 = .ok (.lshl, 1) := by decide +kernel
theorem own_dG_50 : decode prog_140_method_8_code 50 = .ok (.lor, 1) := by decide +kernel
theorem own_dG_51 : decode prog_140_method_8_code 51 = .ok (.aload_n 0, 1) := by decide +kernel
theorem own_dG_52 : decode prog_140_method_8_code 52 = .ok (.getfield 41, 3) := by decide +kernel
theorem own_dG_55 : decode prog_140_method_8_code 55 = .ok (.land, 1) := by decide +kernel
theorem own_dG_56 : decode prog_140_method_8_code 56 = .ok (.lreturn, 1) := by decide +kernel
theorem own_pn_own_rmG : plainFor (⟨"com/example/quotient/quotient/PackedInts", "get", "(I)J"⟩ : MethodName) = true := plainFor_of_name (show plainName "com/example/quotient/quotient/PackedInts" = true by first | (simp [plainName, overriddenIn]; done) | decide +kernel)
set_option maxRecDepth 65536 in
set_option maxHeartbeats 40000000 in
theorem own_rmG (l : Launch) (Z : State) (a0 : Array Value) (hw : ∀ d ∈ tables_1, d.before a0 Z = true) (ws : List Jvm.Cond) (h0 : Heap) (n0 : Nat) (Z0 : n0 ≤ h0.size) (a b : Addr) (hab : a < b) (g_b : n0 ≤ b) (N : Nat) (f : Nat → Int64) (x wd : Int32) (mk v : Int64) (W : Nat) (hW : ((((x.toInt64 * wd.toInt64).toUInt64 >>> ((6 : Int32) &&& 0x3f).toInt64.toUInt64).toInt64).toInt32).toInt = W) (hW1 : W + 1 < N) (hW2 : W < 100000) (A_b : own_L Z h0 b N f) (E_a : Exa Z h0 a "com/example/quotient/quotient/PackedInts") (F_a_width : Fld Z h0 a "com/example/quotient/quotient/PackedInts" "width" "I" (.int wd)) (F_a_mask : Fld Z h0 a "com/example/quotient/quotient/PackedInts" "mask" "J" (.long mk)) (F_a_words : Fld Z h0 a "com/example/quotient/quotient/PackedInts" "words" "[J" (.ref b))  :
    own_C l Z (⟨"com/example/quotient/quotient/PackedInts", "get", "(I)J"⟩ : MethodName) prog_140_method_8_code 6 (some .long) ws ({ frames := 0, cells := 0, slots := 0, locals := 0 } : Room) #[(.ref a), (.int x)] h0 (own_Q n0 (fun v' h => v' = some (.long (own_getf f W (own_off x wd) mk)) ∧ h = h0)) := by
  refine own_met own_pn_own_rmG #[rv a, iv x, .unset, .unset, .unset, .unset] (fun m => by first | (simp [entryFrame, mkF, argsToLocals, Value.category]; done) | rfl) ?_
  intro p e s m below meth c s₁ Fi hx hby hml hown hret hlk hZ hnm hF X0 e0
  replace X0 := own_S.of X0 (n0)
  have hn : n0 ≤ h0.size := Z0
  refine own_gs 1 [(.int x)] (fun t' k => XS.iloadN X0.here hx rfl (hb hby own_dG_0) rfl  k) ?_
  refine own_gs 2 [(.long (x.toInt64))] (fun t' k => XS.i2l X0.here hx rfl (hb hby own_dG_1) rfl k) ?_
  refine own_gs 3 [(.ref a), (.long (x.toInt64))] (fun t' k => XS.aloadN X0.here hx rfl (hb hby own_dG_2) rfl rfl  k) ?_
  refine X0.getF hx hZ hown (hw _ (List.mem_of_getElem? (i := 16) rfl)) e0 F_a_width (hb hby own_dG_3) ?_
  intro T1 X1 e1
  refine own_gs 7 [(.long (wd.toInt64)), (.long (x.toInt64))] (fun t' k => XS.i2l X1.here hx rfl (hb hby own_dG_6) rfl k) ?_
  refine own_gs 8 [(.long ((x.toInt64) * (wd.toInt64)))] (fun t' k => XS.lmul X1.here hx rfl (hb hby own_dG_7) rfl k) ?_
  refine own_go (mkF m 9 #[rv a, iv x, jv ((x.toInt64) * (wd.toInt64)), .second, .unset, .unset] []) (fun t' k => XS.lstoreN X1.here hx rfl (hb hby own_dG_8) rfl rfl k) ?_
  refine own_gs 10 [(.long ((x.toInt64) * (wd.toInt64)))] (fun t' k => XS.lloadN X1.here hx rfl (hb hby own_dG_9) rfl  k) ?_
  refine own_gs 12 [(.int (6 : Int32)), (.long ((x.toInt64) * (wd.toInt64)))] (fun t' k => XS.bipush X1.here hx rfl (hb hby own_dG_10) k) ?_
  refine own_gs 13 [(.long ((((x.toInt64) * (wd.toInt64)).toUInt64 >>> ((6 : Int32) &&& 0x3f).toInt64.toUInt64).toInt64))] (fun t' k => XS.lushr X1.here hx rfl (hb hby own_dG_12) rfl k) ?_
  refine own_gs 14 [(.int (((((x.toInt64) * (wd.toInt64)).toUInt64 >>> ((6 : Int32) &&& 0x3f).toInt64.toUInt64).toInt64).toInt32))] (fun t' k => XS.l2i X1.here hx rfl (hb hby own_dG_13) rfl k) ?_
  refine own_go (mkF m 16 #[rv a, iv x, jv ((x.toInt64) * (wd.toInt64)), .second, iv (((((x.toInt64) * (wd.toInt64)).toUInt64 >>> ((6 : Int32) &&& 0x3f).toInt64.toUInt64).toInt64).toInt32), .unset] []) (fun t' k => XS.istore X1.here hx rfl (hb hby own_dG_14) rfl rfl k) ?_
  have hwx : ((((((x.toInt64) * (wd.toInt64)).toUInt64 >>> ((6 : Int32) &&& 0x3f).toInt64.toUInt64).toInt64).toInt32)).toInt = (W : Int) := hW
  generalize (((((x.toInt64) * (wd.toInt64)).toUInt64 >>> ((6 : Int32) &&& 0x3f).toInt64.toUInt64).toInt64).toInt32) = wx at hwx ⊢
  refine own_gs 17 [(.long ((x.toInt64) * (wd.toInt64)))] (fun t' k => XS.lloadN X1.here hx rfl (hb hby own_dG_16) rfl  k) ?_
  refine own_gs 18 [(.int (((x.toInt64) * (wd.toInt64)).toInt32))] (fun t' k => XS.l2i X1.here hx rfl (hb hby own_dG_17) rfl k) ?_
  refine own_gs 20 [(.int (63 : Int32)), (.int (((x.toInt64) * (wd.toInt64)).toInt32))] (fun t' k => XS.bipush X1.here hx rfl (hb hby own_dG_18) k) ?_
  refine own_gs 21 [(.int ((((x.toInt64) * (wd.toInt64)).toInt32) &&& (63 : Int32)))] (fun t' k => XS.iand X1.here hx rfl (hb hby own_dG_20) rfl k) ?_
  refine own_go (mkF m 23 #[rv a, iv x, jv ((x.toInt64) * (wd.toInt64)), .second, iv wx, iv ((((x.toInt64) * (wd.toInt64)).toInt32) &&& (63 : Int32))] []) (fun t' k => XS.istore X1.here hx rfl (hb hby own_dG_21) rfl rfl k) ?_
  refine own_gs 24 [(.ref a)] (fun t' k => XS.aloadN X1.here hx rfl (hb hby own_dG_23) rfl rfl  k) ?_
  refine X1.getF hx hZ hown (hw _ (List.mem_of_getElem? (i := 42) rfl)) e1 F_a_words (hb hby own_dG_24) ?_
  intro T2 X2 e2
  refine own_gs 29 [(.int wx), (.ref b)] (fun t' k => XS.iload X2.here hx rfl (hb hby own_dG_27) rfl  k) ?_
  refine X2.ldJf hx hZ e2 A_b W hwx (by omega) (hb hby own_dG_29) ?_
  refine own_gs 32 [(.int ((((x.toInt64) * (wd.toInt64)).toInt32) &&& (63 : Int32))), (.long (f W))] (fun t' k => XS.iload X2.here hx rfl (hb hby own_dG_30) rfl  k) ?_
  refine own_gs 33 [(.long (((f W).toUInt64 >>> (((((x.toInt64) * (wd.toInt64)).toInt32) &&& (63 : Int32)) &&& 0x3f).toInt64.toUInt64).toInt64))] (fun t' k => XS.lushr X2.here hx rfl (hb hby own_dG_32) rfl k) ?_
  refine own_gs 34 [(.ref a), (.long (((f W).toUInt64 >>> (((((x.toInt64) * (wd.toInt64)).toInt32) &&& (63 : Int32)) &&& 0x3f).toInt64.toUInt64).toInt64))] (fun t' k => XS.aloadN X2.here hx rfl (hb hby own_dG_33) rfl rfl  k) ?_
  refine X2.getF hx hZ hown (hw _ (List.mem_of_getElem? (i := 42) rfl)) e2 F_a_words (hb hby own_dG_34) ?_
  intro T3 X3 e3
  refine own_gs 39 [(.int wx), (.ref b), (.long (((f W).toUInt64 >>> (((((x.toInt64) * (wd.toInt64)).toInt32) &&& (63 : Int32)) &&& 0x3f).toInt64.toUInt64).toInt64))] (fun t' k => XS.iload X3.here hx rfl (hb hby own_dG_37) rfl  k) ?_
  refine own_gs 40 [(.int (1 : Int32)), (.int wx), (.ref b), (.long (((f W).toUInt64 >>> (((((x.toInt64) * (wd.toInt64)).toInt32) &&& (63 : Int32)) &&& 0x3f).toInt64.toUInt64).toInt64))] (fun t' k => XS.iconst X3.here hx rfl (hb hby own_dG_39) k) ?_
  refine own_gs 41 [(.int (wx + (1 : Int32))), (.ref b), (.long (((f W).toUInt64 >>> (((((x.toInt64) * (wd.toInt64)).toInt32) &&& (63 : Int32)) &&& 0x3f).toInt64.toUInt64).toInt64))] (fun t' k => XS.iadd X3.here hx rfl (hb hby own_dG_40) rfl k) ?_
  refine X3.ldJf hx hZ e3 A_b (W + 1) (own_i1 hwx hW2) hW1 (hb hby own_dG_41) ?_
  refine own_gs 43 [(.int (1 : Int32)), (.long (f (W + 1))), (.long (((f W).toUInt64 >>> (((((x.toInt64) * (wd.toInt64)).toInt32) &&& (63 : Int32)) &&& 0x3f).toInt64.toUInt64).toInt64))] (fun t' k => XS.iconst X3.here hx rfl (hb hby own_dG_42) k) ?_
  refine own_gs 44 [(.long ((f (W + 1)) <<< ((1 : Int32) &&& 0x3f).toInt64)), (.long (((f W).toUInt64 >>> (((((x.toInt64) * (wd.toInt64)).toInt32) &&& (63 : Int32)) &&& 0x3f).toInt64.toUInt64).toInt64))] (fun t' k => XS.lshl X3.here hx rfl (hb hby own_dG_43) rfl k) ?_
  refine own_gs 46 [(.int (63 : Int32)), (.long ((f (W + 1)) <<< ((1 : Int32) &&& 0x3f).toInt64)), (.long (((f W).toUInt64 >>> (((((x.toInt64) * (wd.toInt64)).toInt32) &&& (63 : Int32)) &&& 0x3f).toInt64.toUInt64).toInt64))] (fun t' k => XS.bipush X3.here hx rfl (hb hby own_dG_44) k) ?_
  refine own_gs 48 [(.int ((((x.toInt64) * (wd.toInt64)).toInt32) &&& (63 : Int32))), (.int (63 : Int32)), (.long ((f (W + 1)) <<< ((1 : Int32) &&& 0x3f).toInt64)), (.long (((f W).toUInt64 >>> (((((x.toInt64) * (wd.toInt64)).toInt32) &&& (63 : Int32)) &&& 0x3f).toInt64.toUInt64).toInt64))] (fun t' k => XS.iload X3.here hx rfl (hb hby own_dG_46) rfl  k) ?_
  refine own_gs 49 [(.int ((63 : Int32) - ((((x.toInt64) * (wd.toInt64)).toInt32) &&& (63 : Int32)))), (.long ((f (W + 1)) <<< ((1 : Int32) &&& 0x3f).toInt64)), (.long (((f W).toUInt64 >>> (((((x.toInt64) * (wd.toInt64)).toInt32) &&& (63 : Int32)) &&& 0x3f).toInt64.toUInt64).toInt64))] (fun t' k => XS.isub X3.here hx rfl (hb hby own_dG_48) rfl k) ?_
  refine own_gs 50 [(.long (((f (W + 1)) <<< ((1 : Int32) &&& 0x3f).toInt64) <<< (((63 : Int32) - ((((x.toInt64) * (wd.toInt64)).toInt32) &&& (63 : Int32))) &&& 0x3f).toInt64)), (.long (((f W).toUInt64 >>> (((((x.toInt64) * (wd.toInt64)).toInt32) &&& (63 : Int32)) &&& 0x3f).toInt64.toUInt64).toInt64))] (fun t' k => XS.lshl X3.here hx rfl (hb hby own_dG_49) rfl k) ?_
  refine own_gs 51 [(.long ((((f W).toUInt64 >>> (((((x.toInt64) * (wd.toInt64)).toInt32) &&& (63 : Int32)) &&& 0x3f).toInt64.toUInt64).toInt64) ||| (((f (W + 1)) <<< ((1 : Int32) &&& 0x3f).toInt64) <<< (((63 : Int32) - ((((x.toInt64) * (wd.toInt64)).toInt32) &&& (63 : Int32))) &&& 0x3f).toInt64)))] (fun t' k => XS.lor X3.here hx rfl (hb hby own_dG_50) rfl k) ?_
  refine own_gs 52 [(.ref a), (.long ((((f W).toUInt64 >>> (((((x.toInt64) * (wd.toInt64)).toInt32) &&& (63 : Int32)) &&& 0x3f).toInt64.toUInt64).toInt64) ||| (((f (W + 1)) <<< ((1 : Int32) &&& 0x3f).toInt64) <<< (((63 : Int32) - ((((x.toInt64) * (wd.toInt64)).toInt32) &&& (63 : Int32))) &&& 0x3f).toInt64)))] (fun t' k => XS.aloadN X3.here hx rfl (hb hby own_dG_51) rfl rfl  k) ?_
  refine X3.getF hx hZ hown (hw _ (List.mem_of_getElem? (i := 18) rfl)) e3 F_a_mask (hb hby own_dG_52) ?_
  intro T4 X4 e4
  refine own_gs 56 [(.long (((((f W).toUInt64 >>> (((((x.toInt64) * (wd.toInt64)).toInt32) &&& (63 : Int32)) &&& 0x3f).toInt64.toUInt64).toInt64) ||| (((f (W + 1)) <<< ((1 : Int32) &&& 0x3f).toInt64) <<< (((63 : Int32) - ((((x.toInt64) * (wd.toInt64)).toInt32) &&& (63 : Int32))) &&& 0x3f).toInt64)) &&& mk))] (fun t' k => XS.land X4.here hx rfl (hb hby own_dG_55) rfl k) ?_
  refine X4.retJ hF (Nat.zero_le _) hx hlk hret (hb hby own_dG_56) ?_ (by decide) (by decide)
  exact ⟨rfl, e4⟩

theorem own_pn_own_rm0 : plainFor x = true := plainFor_of_name (show plainName "com/example/quotient/quotient/PackedIntsGetPinLaw" = true by first | (simp [plainName, overriddenIn]; done) | decide +kernel)
set_option maxRecDepth 65536 in
set_option maxHeartbeats 40000000 in
theorem own_rm0 (l : Launch) (Z : State) (a0 : Array Value) (hw : ∀ d ∈ tables_1, d.before a0 Z = true) (ws : List Jvm.Cond) (h0 : Heap) (x0 x1 x2 : Int32) (x3 x4 x5 : Int64)  :
    own_CW l Z x code maxLocals ret ws room_1 #[(.int x0), (.int x1), (.int x2), (.long x3), (.long x4), (.long x5)] h0 (own_Q h0.size (fun v h => v = some (.int 1))) := by
  refine own_metW own_pn_own_rm0 #[iv x0, iv x1, iv x2, jv x3, .second, jv x4, .second, jv x5, .second, .unset, .unset, .unset, .unset, .unset, .unset, .unset, .unset, .unset, .unset, .unset, .unset, .unset, .unset, .unset, .unset] (fun m => by first | (simp [entryFrame, mkF, argsToLocals, Value.category, maxLocals]; done) | rfl) ?_
  intro p e s vm0 m below meth c s₁ Fi hx hby hml hown hret hlk hZ hnm hFW hS hk X0 e0
  replace hml : c.maxLocals = 25 := hml
  replace X0 := own_S.of X0 (h0.size)
  have hn : h0.size ≤ h0.size := Nat.le_refl _
  refine own_gs 1 [(.int (4 : Int32))] (fun t' k => XS.iconst X0.here hx rfl (hb hby at_0) k) ?_
  refine own_gs 2 [(.int x0), (.int (4 : Int32))] (fun t' k => XS.iloadN X0.here hx rfl (hb hby at_1) rfl  k) ?_
  refine own_gs 4 [(.int (127 : Int32)), (.int x0), (.int (4 : Int32))] (fun t' k => XS.bipush X0.here hx rfl (hb hby at_2) k) ?_
  refine own_gs 5 [(.int (x0 &&& (127 : Int32))), (.int (4 : Int32))] (fun t' k => XS.iand X0.here hx rfl (hb hby at_4) rfl k) ?_
  refine own_gs 6 [(.int ((4 : Int32) + (x0 &&& (127 : Int32))))] (fun t' k => XS.iadd X0.here hx rfl (hb hby at_5) rfl k) ?_
  refine own_go (mkF m 8 #[iv x0, iv x1, iv x2, jv x3, .second, jv x4, .second, jv x5, .second, iv ((4 : Int32) + (x0 &&& (127 : Int32))), .unset, .unset, .unset, .unset, .unset, .unset, .unset, .unset, .unset, .unset, .unset, .unset, .unset, .unset, .unset] []) (fun t' k => XS.istore X0.here hx rfl (hb hby at_6) rfl rfl k) ?_
  obtain ⟨LN, hLN, hLN4, hLN2⟩ := own_len x0
  generalize eln : ((4 : Int32) + (x0 &&& (127 : Int32))) = ln
  rw [eln] at hLN
  have hln0 : ¬ ln = 0 := fun q => by rw [q] at hLN; have : (0 : Int32).toInt = 0 := rfl; omega
  refine own_gs 9 [(.int x1)] (fun t' k => XS.iloadN X0.here hx rfl (hb hby at_8) rfl  k) ?_
  refine own_gs 11 [(.int (63 : Int32)), (.int x1)] (fun t' k => XS.bipush X0.here hx rfl (hb hby at_9) k) ?_
  refine own_gs 12 [(.int (x1 &&& (63 : Int32)))] (fun t' k => XS.iand X0.here hx rfl (hb hby at_11) rfl k) ?_
  refine own_go (mkF m 14 #[iv x0, iv x1, iv x2, jv x3, .second, jv x4, .second, jv x5, .second, iv ln, iv (x1 &&& (63 : Int32)), .unset, .unset, .unset, .unset, .unset, .unset, .unset, .unset, .unset, .unset, .unset, .unset, .unset, .unset] []) (fun t' k => XS.istore X0.here hx rfl (hb hby at_12) rfl rfl k) ?_
  obtain ⟨D, hD, hD2⟩ := own_wid x1
  generalize ewd : (x1 &&& (63 : Int32)) = wd
  rw [ewd] at hD
  refine own_gs 15 [(.long (1 : Int64))] (fun t' k => XS.lconst X0.here hx rfl (hb hby at_14) k) ?_
  refine own_gs 17 [(.int wd), (.long (1 : Int64))] (fun t' k => XS.iload X0.here hx rfl (hb hby at_15) rfl  k) ?_
  refine own_gs 18 [(.long ((1 : Int64) <<< (wd &&& 0x3f).toInt64))] (fun t' k => XS.lshl X0.here hx rfl (hb hby at_17) rfl k) ?_
  refine own_gs 19 [(.long (1 : Int64)), (.long ((1 : Int64) <<< (wd &&& 0x3f).toInt64))] (fun t' k => XS.lconst X0.here hx rfl (hb hby at_18) k) ?_
  refine own_gs 20 [(.long (((1 : Int64) <<< (wd &&& 0x3f).toInt64) - (1 : Int64)))] (fun t' k => XS.lsub X0.here hx rfl (hb hby at_19) rfl k) ?_
  refine own_go (mkF m 22 #[iv x0, iv x1, iv x2, jv x3, .second, jv x4, .second, jv x5, .second, iv ln, iv wd, jv (((1 : Int64) <<< (wd &&& 0x3f).toInt64) - (1 : Int64)), .second, .unset, .unset, .unset, .unset, .unset, .unset, .unset, .unset, .unset, .unset, .unset, .unset] []) (fun t' k => XS.lstore X0.here hx rfl (hb hby at_20) rfl rfl k) ?_
  generalize emk : (((1 : Int64) <<< (wd &&& 0x3f).toInt64) - (1 : Int64)) = mk
  have hmB : ∀ j, mk.toBitVec.getLsbD j = decide (j < D) := fun j => by rw [← emk]; exact own_mkB hD hD2 j
  have em' : own_mk wd = mk := emk
  refine own_gs 23 [(.int x2)] (fun t' k => XS.iloadN X0.here hx rfl (hb hby at_22) rfl  k) ?_
  refine own_gs 25 [(.int (2147483647 : Int32)), (.int x2)] (fun t' k => X0.ldcInt hx hown (mvT hZ (hw _ (List.mem_of_getElem? (i := 0) rfl))) (g := (mkF m 23 #[iv x0, iv x1, iv x2, jv x3, .second, jv x4, .second, jv x5, .second, iv ln, iv wd, jv mk, .second, .unset, .unset, .unset, .unset, .unset, .unset, .unset, .unset, .unset, .unset, .unset, .unset] [(.int x2)])) rfl (hb hby at_23) _ k) ?_
  refine own_gs 26 [(.int (x2 &&& (2147483647 : Int32)))] (fun t' k => XS.iand X0.here hx rfl (hb hby at_25) rfl k) ?_
  refine own_gs 28 [(.int ln), (.int (x2 &&& (2147483647 : Int32)))] (fun t' k => XS.iload X0.here hx rfl (hb hby at_26) rfl  k) ?_
  refine own_gs 29 [(.int ((x2 &&& (2147483647 : Int32)) - ((x2 &&& (2147483647 : Int32)) / ln) * ln))] (fun t' k => XS.irem X0.here hx rfl (hb hby at_28) rfl hln0 k) ?_
  refine own_go (mkF m 31 #[iv x0, iv x1, iv x2, jv x3, .second, jv x4, .second, jv x5, .second, iv ln, iv wd, jv mk, .second, iv ((x2 &&& (2147483647 : Int32)) - ((x2 &&& (2147483647 : Int32)) / ln) * ln), .unset, .unset, .unset, .unset, .unset, .unset, .unset, .unset, .unset, .unset, .unset] []) (fun t' k => XS.istore X0.here hx rfl (hb hby at_29) rfl rfl k) ?_
  obtain ⟨B0, hB0, hB02⟩ := own_pos x2
  have hI0 := own_rem hB0 hLN hB02 (by omega) (by omega)
  obtain ⟨I, hI'⟩ : ∃ I, I = B0 % LN := ⟨_, rfl⟩
  have hI2 : I < LN := by rw [hI']; exact Nat.mod_lt _ (by omega)
  rw [← hI'] at hI0
  generalize eii : ((x2 &&& (2147483647 : Int32)) - ((x2 &&& (2147483647 : Int32)) / ln) * ln) = ii
  rw [eii] at hI0
  refine own_gs 32 [(.long x3)] (fun t' k => XS.lloadN X0.here hx rfl (hb hby at_31) rfl  k) ?_
  refine own_gs 34 [(.long mk), (.long x3)] (fun t' k => XS.lload X0.here hx rfl (hb hby at_32) rfl  k) ?_
  refine own_gs 35 [(.long (x3 &&& mk))] (fun t' k => XS.land X0.here hx rfl (hb hby at_34) rfl k) ?_
  refine own_go (mkF m 37 #[iv x0, iv x1, iv x2, jv x3, .second, jv x4, .second, jv x5, .second, iv ln, iv wd, jv mk, .second, iv ii, jv (x3 &&& mk), .second, .unset, .unset, .unset, .unset, .unset, .unset, .unset, .unset, .unset] []) (fun t' k => XS.lstore X0.here hx rfl (hb hby at_35) rfl rfl k) ?_
  generalize ev1 : (x3 &&& mk) = v1
  have v1B := own_vB hmB ev1
  have v1L := own_vle hD2 hmB ev1
  refine own_gs 39 [(.long x4)] (fun t' k => XS.lload X0.here hx rfl (hb hby at_37) rfl  k) ?_
  refine own_gs 41 [(.long mk), (.long x4)] (fun t' k => XS.lload X0.here hx rfl (hb hby at_39) rfl  k) ?_
  refine own_gs 42 [(.long (x4 &&& mk))] (fun t' k => XS.land X0.here hx rfl (hb hby at_41) rfl k) ?_
  refine own_go (mkF m 44 #[iv x0, iv x1, iv x2, jv x3, .second, jv x4, .second, jv x5, .second, iv ln, iv wd, jv mk, .second, iv ii, jv v1, .second, jv (x4 &&& mk), .second, .unset, .unset, .unset, .unset, .unset, .unset, .unset] []) (fun t' k => XS.lstore X0.here hx rfl (hb hby at_42) rfl rfl k) ?_
  generalize ev2 : (x4 &&& mk) = v2
  have v2B := own_vB hmB ev2
  have v2L := own_vle hD2 hmB ev2
  refine own_gs 46 [(.long x5)] (fun t' k => XS.lload X0.here hx rfl (hb hby at_44) rfl  k) ?_
  refine own_gs 48 [(.long mk), (.long x5)] (fun t' k => XS.lload X0.here hx rfl (hb hby at_46) rfl  k) ?_
  refine own_gs 49 [(.long (x5 &&& mk))] (fun t' k => XS.land X0.here hx rfl (hb hby at_48) rfl k) ?_
  refine own_go (mkF m 51 #[iv x0, iv x1, iv x2, jv x3, .second, jv x4, .second, jv x5, .second, iv ln, iv wd, jv mk, .second, iv ii, jv v1, .second, jv v2, .second, jv (x5 &&& mk), .second, .unset, .unset, .unset, .unset, .unset] []) (fun t' k => XS.lstore X0.here hx rfl (hb hby at_49) rfl rfl k) ?_
  generalize ev3 : (x5 &&& mk) = v3
  have v3B := own_vB hmB ev3
  have v3L := own_vle hD2 hmB ev3
  refine X0.newO hx hZ hown (hw _ (List.mem_of_getElem? (i := 1) rfl)) (hw _ (List.mem_of_getElem? (i := 2) rfl)) (hw _ (List.mem_of_getElem? (i := 3) rfl)) e0 (hb hby at_51) (by decide) (by decide) ?_
  intro T1 h1 b1 X1 e1 q1 xt1 E_b1 D1
  have g_b1 : h0.size ≤ b1 := by rw [q1]; exact hn
  replace hn := Nat.le_trans hn xt1.1
  replace hk := Nat.le_trans hk xt1.1
  have F_b1_length : Fld Z h1 b1 "com/example/quotient/quotient/PackedInts" "length" "I" (.int (0 : Int32)) := D1 (Or.inl (hw _ (List.mem_of_getElem? (i := 11) rfl))) (ty := .int) (by decide)
  have F_b1_width : Fld Z h1 b1 "com/example/quotient/quotient/PackedInts" "width" "I" (.int (0 : Int32)) := D1 (Or.inl (hw _ (List.mem_of_getElem? (i := 17) rfl))) (ty := .int) (by decide)
  have F_b1_mask : Fld Z h1 b1 "com/example/quotient/quotient/PackedInts" "mask" "J" (.long (0 : Int64)) := D1 (Or.inl (hw _ (List.mem_of_getElem? (i := 19) rfl))) (ty := .long) (by decide)
  have F_b1_words : Fld Z h1 b1 "com/example/quotient/quotient/PackedInts" "words" "[J" .null := D1 (Or.inl (hw _ (List.mem_of_getElem? (i := 43) rfl))) (ty := (.array .long)) (by decide)
  refine own_gs 55 [(.ref b1), (.ref b1)] (fun t' k => XS.dup X1.here hx rfl (hb hby at_54) rfl rfl k) ?_
  refine own_gs 57 [(.int ln), (.ref b1), (.ref b1)] (fun t' k => XS.iload X1.here hx rfl (hb hby at_55) rfl  k) ?_
  refine own_gs 59 [(.int wd), (.int ln), (.ref b1), (.ref b1)] (fun t' k => XS.iload X1.here hx rfl (hb hby at_57) rfl  k) ?_
  have hmul : LN * D ≤ 131 * 63 := Nat.mul_le_mul hLN2 (by omega)
  have hx63 : ¬ (63 : Int32) < wd := fun q => by rw [Int32.lt_iff_toInt_lt, hD, show (63 : Int32).toInt = 63 from rfl] at q; omega
  refine X1.callIW hx hZ (y := (⟨"com/example/quotient/quotient/PackedInts", "<init>", "(II)V"⟩ : MethodName)) rfl hown (hw _ (List.mem_of_getElem? (i := 4) rfl)) (hw _ (List.mem_of_getElem? (i := 5) rfl)) (hw _ (List.mem_of_getElem? (i := 3) rfl)) (hw _ (List.mem_of_getElem? (i := 6) rfl)) (by decide) e1 hS hk b1 [(.int ln), (.int wd)] [(.ref b1)] (own_rmI l Z a0 hw [] h1 h0.size hn b1 g_b1 0 0 ln wd 0 (LN * D / 64 + 2) hx63 (own_wfOk hLN (by omega) hD hD2) (own_wf32 hLN (by omega) hD hD2) (by omega) E_b1 F_b1_length F_b1_width F_b1_mask F_b1_words) 1 (by decide) (by decide) (Nat.le_of_eq rfl) (by decide) (by decide) (by rw [hml]; rfl) (lenOf own_pd4 rfl) rfl (hb hby at_59) ?_
  clear hS hk hZ hown
  rintro T2 _ vm2 k2 X2 ⟨b, rfl, hab, g_b, hn2, E_o, Fw, Fm, Fs, A_b⟩ hS hk hZ hown
  clear hn
  have hn := hn2
  rw [em'] at Fm
  generalize hN : LN * D / 64 + 2 = N at A_b
  show own_G p e below Fi T2 (mkF m 62 #[iv x0, iv x1, iv x2, jv x3, .second, jv x4, .second, jv x5, .second, iv ln, iv wd, jv mk, .second, iv ii, jv v1, .second, jv v2, .second, jv v3, .second, .unset, .unset, .unset, .unset, .unset] [(.ref b1)])
  refine own_go (mkF m 64 #[iv x0, iv x1, iv x2, jv x3, .second, jv x4, .second, jv x5, .second, iv ln, iv wd, jv mk, .second, iv ii, jv v1, .second, jv v2, .second, jv v3, .second, rv b1, .unset, .unset, .unset, .unset] []) (fun t' k => XS.astore X2.here hx rfl (hb hby at_62) rfl rfl rfl k) ?_
  refine own_gs 66 [(.ref b1)] (fun t' k => XS.aload X2.here hx rfl (hb hby at_64) rfl rfl  k) ?_
  refine own_gs 68 [(.int ii), (.ref b1)] (fun t' k => XS.iload X2.here hx rfl (hb hby at_66) rfl  k) ?_
  refine own_gs 70 [(.long v1), (.int ii), (.ref b1)] (fun t' k => XS.lload X2.here hx rfl (hb hby at_68) rfl  k) ?_
  refine X2.callV hx hZ (y := (⟨"com/example/quotient/quotient/PackedInts", "set", "(IJ)V"⟩ : MethodName)) (C := "com/example/quotient/quotient/PackedInts") hown (hw _ (List.mem_of_getElem? (i := 44) rfl)) (hw _ (List.mem_of_getElem? (i := 45) rfl)) (hw _ (List.mem_of_getElem? (i := 47) rfl)) (hw _ (List.mem_of_getElem? (i := 46) rfl)) (hw _ (List.mem_of_getElem? (i := 3) rfl)) (hw _ (List.mem_of_getElem? (i := 48) rfl)) (by decide) rfl E_o [(.int ii), (.long v1)] [] (own_rmS l Z a0 hw [] T2.heap h0.size hn b1 b hab g_b N (fun _ => 0) ii wd mk v1 (I * D / 64) (own_wdx hI0 (by omega) hD hD2) (own_wb hN hI2) (own_wb2 hI2 hLN2 hD2) A_b E_o Fw Fm Fs v1L) 0 (by decide) (by decide) (Nat.le_of_eq rfl) (by decide) (by decide) (by rw [hml]; rfl) (lenOf own_pd5 rfl) rfl (hb hby at_70) ?_
  rintro T3 _ X3 ⟨rfl, K3, A3⟩
  replace A_b := A3
  replace E_o := E_o.keep K3
  replace Fw := Fw.keep K3 (ninS (Nat.ne_of_lt hab) nin0)
  replace Fm := Fm.keep K3 (ninS (Nat.ne_of_lt hab) nin0)
  replace Fs := Fs.keep K3 (ninS (Nat.ne_of_lt hab) nin0)
  replace hn := Nat.le_trans hn K3.1
  replace hk := Nat.le_trans hk K3.1
  show own_G p e below Fi T3 (mkF m 73 #[iv x0, iv x1, iv x2, jv x3, .second, jv x4, .second, jv x5, .second, iv ln, iv wd, jv mk, .second, iv ii, jv v1, .second, jv v2, .second, jv v3, .second, rv b1, .unset, .unset, .unset, .unset] [])
  refine own_gs 75 [(.int ii)] (fun t' k => XS.iload X3.here hx rfl (hb hby at_73) rfl  k) ?_
  refine own_gs 76 [(.int (1 : Int32)), (.int ii)] (fun t' k => XS.iconst X3.here hx rfl (hb hby at_75) k) ?_
  refine own_gs 77 [(.int (ii + (1 : Int32)))] (fun t' k => XS.iadd X3.here hx rfl (hb hby at_76) rfl k) ?_
  refine own_gs 79 [(.int ln), (.int (ii + (1 : Int32)))] (fun t' k => XS.iload X3.here hx rfl (hb hby at_77) rfl  k) ?_
  by_cases hc79 : (ii + (1 : Int32)) < ln
  · skip
    refine own_gs 82 [] (fun t' k => XS.icmpNo X3.here hx rfl (hb hby at_79) rfl (tlt hc79).2.1 k) ?_
    have hIn : I + 1 < LN := by have := Int32.lt_iff_toInt_lt.mp hc79; rw [own_i1 hI0 (by omega), hLN] at this; omega
    refine own_gs 83 [(.int (1 : Int32))] (fun t' k => XS.iconst X3.here hx rfl (hb hby at_82) k) ?_
    refine own_gs 87 [(.int (1 : Int32))] (fun t' k => XS.goto X3.here hx rfl (pc0 := 83) (pc' := 87) rfl (hb hby at_83) (by decide) (by decide) k) ?_
    refine own_go (mkF m 89 #[iv x0, iv x1, iv x2, jv x3, .second, jv x4, .second, jv x5, .second, iv ln, iv wd, jv mk, .second, iv ii, jv v1, .second, jv v2, .second, jv v3, .second, rv b1, iv (1 : Int32), .unset, .unset, .unset] []) (fun t' k => XS.istore X3.here hx rfl (hb hby at_87) rfl rfl k) ?_
    refine own_gs 91 [(.int ii)] (fun t' k => XS.iload X3.here hx rfl (hb hby at_89) rfl  k) ?_
    by_cases hc91 : (0 : Int32) < ii
    · skip
      refine own_gs 94 [] (fun t' k => XS.ifNo X3.here hx rfl (hb hby at_91) rfl ((if0 _ _).trans (tlt hc91).2.2.2) k) ?_
      have hIp : 0 < I := by have := Int32.lt_iff_toInt_lt.mp hc91; rw [hI0, show (0 : Int32).toInt = 0 from rfl] at this; omega
      refine own_gs 95 [(.int (1 : Int32))] (fun t' k => XS.iconst X3.here hx rfl (hb hby at_94) k) ?_
      refine own_gs 99 [(.int (1 : Int32))] (fun t' k => XS.goto X3.here hx rfl (pc0 := 95) (pc' := 99) rfl (hb hby at_95) (by decide) (by decide) k) ?_
      refine own_go (mkF m 101 #[iv x0, iv x1, iv x2, jv x3, .second, jv x4, .second, jv x5, .second, iv ln, iv wd, jv mk, .second, iv ii, jv v1, .second, jv v2, .second, jv v3, .second, rv b1, iv (1 : Int32), iv (1 : Int32), .unset, .unset] []) (fun t' k => XS.istore X3.here hx rfl (hb hby at_99) rfl rfl k) ?_
      refine own_gs 103 [(.int (1 : Int32))] (fun t' k => XS.iload X3.here hx rfl (hb hby at_101) rfl  k) ?_
      refine own_gs 106 [] (fun t' k => XS.ifNo X3.here hx rfl (hb hby at_103) rfl ((if0 _ _).trans (feq (by decide)).1) k) ?_
      refine own_gs 108 [(.ref b1)] (fun t' k => XS.aload X3.here hx rfl (hb hby at_106) rfl rfl  k) ?_
      refine own_gs 110 [(.int ii), (.ref b1)] (fun t' k => XS.iload X3.here hx rfl (hb hby at_108) rfl  k) ?_
      refine own_gs 111 [(.int (1 : Int32)), (.int ii), (.ref b1)] (fun t' k => XS.iconst X3.here hx rfl (hb hby at_110) k) ?_
      refine own_gs 112 [(.int (ii + (1 : Int32))), (.ref b1)] (fun t' k => XS.iadd X3.here hx rfl (hb hby at_111) rfl k) ?_
      refine own_gs 114 [(.long v2), (.int (ii + (1 : Int32))), (.ref b1)] (fun t' k => XS.lload X3.here hx rfl (hb hby at_112) rfl  k) ?_
      refine X3.callV hx hZ (y := (⟨"com/example/quotient/quotient/PackedInts", "set", "(IJ)V"⟩ : MethodName)) (C := "com/example/quotient/quotient/PackedInts") hown (hw _ (List.mem_of_getElem? (i := 44) rfl)) (hw _ (List.mem_of_getElem? (i := 45) rfl)) (hw _ (List.mem_of_getElem? (i := 47) rfl)) (hw _ (List.mem_of_getElem? (i := 46) rfl)) (hw _ (List.mem_of_getElem? (i := 3) rfl)) (hw _ (List.mem_of_getElem? (i := 48) rfl)) (by decide) rfl E_o [(.int (ii + (1 : Int32))), (.long v2)] [] (own_rmS l Z a0 hw [] T3.heap h0.size hn b1 b hab g_b N (own_setf (fun _ => 0) (I * D / 64) (own_off ii wd) mk v1) (ii + (1 : Int32)) wd mk v2 ((I + 1) * D / 64) (own_wdx (own_i1 hI0 (by omega)) (by omega) hD hD2) (own_wb hN hIn) (own_wb2 hIn hLN2 hD2) A_b E_o Fw Fm Fs v2L) 0 (by decide) (by decide) (Nat.le_of_eq rfl) (by decide) (by decide) (by rw [hml]; rfl) (lenOf own_pd5 rfl) rfl (hb hby at_114) ?_
      rintro T4 _ X4 ⟨rfl, K4, A4⟩
      replace A_b := A4
      replace E_o := E_o.keep K4
      replace Fw := Fw.keep K4 (ninS (Nat.ne_of_lt hab) nin0)
      replace Fm := Fm.keep K4 (ninS (Nat.ne_of_lt hab) nin0)
      replace Fs := Fs.keep K4 (ninS (Nat.ne_of_lt hab) nin0)
      replace hn := Nat.le_trans hn K4.1
      replace hk := Nat.le_trans hk K4.1
      show own_G p e below Fi T4 (mkF m 117 #[iv x0, iv x1, iv x2, jv x3, .second, jv x4, .second, jv x5, .second, iv ln, iv wd, jv mk, .second, iv ii, jv v1, .second, jv v2, .second, jv v3, .second, rv b1, iv (1 : Int32), iv (1 : Int32), .unset, .unset] [])
      refine own_gs 119 [(.int (1 : Int32))] (fun t' k => XS.iload X4.here hx rfl (hb hby at_117) rfl  k) ?_
      refine own_gs 122 [] (fun t' k => XS.ifNo X4.here hx rfl (hb hby at_119) rfl ((if0 _ _).trans (feq (by decide)).1) k) ?_
      refine own_gs 124 [(.ref b1)] (fun t' k => XS.aload X4.here hx rfl (hb hby at_122) rfl rfl  k) ?_
      refine own_gs 126 [(.int ii), (.ref b1)] (fun t' k => XS.iload X4.here hx rfl (hb hby at_124) rfl  k) ?_
      refine own_gs 127 [(.int (1 : Int32)), (.int ii), (.ref b1)] (fun t' k => XS.iconst X4.here hx rfl (hb hby at_126) k) ?_
      refine own_gs 128 [(.int (ii - (1 : Int32))), (.ref b1)] (fun t' k => XS.isub X4.here hx rfl (hb hby at_127) rfl k) ?_
      refine own_gs 130 [(.long v3), (.int (ii - (1 : Int32))), (.ref b1)] (fun t' k => XS.lload X4.here hx rfl (hb hby at_128) rfl  k) ?_
      refine X4.callV hx hZ (y := (⟨"com/example/quotient/quotient/PackedInts", "set", "(IJ)V"⟩ : MethodName)) (C := "com/example/quotient/quotient/PackedInts") hown (hw _ (List.mem_of_getElem? (i := 44) rfl)) (hw _ (List.mem_of_getElem? (i := 45) rfl)) (hw _ (List.mem_of_getElem? (i := 47) rfl)) (hw _ (List.mem_of_getElem? (i := 46) rfl)) (hw _ (List.mem_of_getElem? (i := 3) rfl)) (hw _ (List.mem_of_getElem? (i := 48) rfl)) (by decide) rfl E_o [(.int (ii - (1 : Int32))), (.long v3)] [] (own_rmS l Z a0 hw [] T4.heap h0.size hn b1 b hab g_b N (own_setf (own_setf (fun _ => 0) (I * D / 64) (own_off ii wd) mk v1) ((I + 1) * D / 64) (own_off (ii + (1 : Int32)) wd) mk v2) (ii - (1 : Int32)) wd mk v3 ((I - 1) * D / 64) (own_wdx (own_d1 hI0 hIp (by omega)) (by omega) hD hD2) (own_wb hN (by omega : I - 1 < LN)) (own_wb2 (by omega : I - 1 < LN) hLN2 hD2) A_b E_o Fw Fm Fs v3L) 0 (by decide) (by decide) (Nat.le_of_eq rfl) (by decide) (by decide) (by rw [hml]; rfl) (lenOf own_pd5 rfl) rfl (hb hby at_130) ?_
      rintro T5 _ X5 ⟨rfl, K5, A5⟩
      replace A_b := A5
      replace E_o := E_o.keep K5
      replace Fw := Fw.keep K5 (ninS (Nat.ne_of_lt hab) nin0)
      replace Fm := Fm.keep K5 (ninS (Nat.ne_of_lt hab) nin0)
      replace Fs := Fs.keep K5 (ninS (Nat.ne_of_lt hab) nin0)
      replace hn := Nat.le_trans hn K5.1
      replace hk := Nat.le_trans hk K5.1
      show own_G p e below Fi T5 (mkF m 133 #[iv x0, iv x1, iv x2, jv x3, .second, jv x4, .second, jv x5, .second, iv ln, iv wd, jv mk, .second, iv ii, jv v1, .second, jv v2, .second, jv v3, .second, rv b1, iv (1 : Int32), iv (1 : Int32), .unset, .unset] [])
      refine own_gs 135 [(.int ii)] (fun t' k => XS.iload X5.here hx rfl (hb hby at_133) rfl  k) ?_
      refine own_gs 136 [(.int (2 : Int32)), (.int ii)] (fun t' k => XS.iconst X5.here hx rfl (hb hby at_135) k) ?_
      refine own_gs 137 [(.int (ii + (2 : Int32)))] (fun t' k => XS.iadd X5.here hx rfl (hb hby at_136) rfl k) ?_
      refine own_gs 139 [(.int ln), (.int (ii + (2 : Int32)))] (fun t' k => XS.iload X5.here hx rfl (hb hby at_137) rfl  k) ?_
      refine own_gs 140 [(.int ((ii + (2 : Int32)) - ((ii + (2 : Int32)) / ln) * ln))] (fun t' k => XS.irem X5.here hx rfl (hb hby at_139) rfl hln0 k) ?_
      refine own_go (mkF m 142 #[iv x0, iv x1, iv x2, jv x3, .second, jv x4, .second, jv x5, .second, iv ln, iv wd, jv mk, .second, iv ii, jv v1, .second, jv v2, .second, jv v3, .second, rv b1, iv (1 : Int32), iv (1 : Int32), iv ((ii + (2 : Int32)) - ((ii + (2 : Int32)) / ln) * ln), .unset] []) (fun t' k => XS.istore X5.here hx rfl (hb hby at_140) rfl rfl k) ?_
      have hK0 := own_rem (own_i2 hI0 (by omega)) hLN (by omega) (by omega) (by omega)
      obtain ⟨K, hK'⟩ : ∃ K, K = (I + 2) % LN := ⟨_, rfl⟩
      have hK2 : K < LN := by rw [hK']; exact Nat.mod_lt _ (by omega)
      rw [← hK'] at hK0
      have hK3 : K ≠ I ∧ K ≠ I + 1 ∧ K + 1 ≠ I := by
        by_cases r : I + 2 < LN
        · rw [Nat.mod_eq_of_lt r] at hK'; omega
        · rw [Nat.mod_eq_sub_mod (by omega), Nat.mod_eq_of_lt (by omega)] at hK'; omega
      generalize ekx : ((ii + (2 : Int32)) - ((ii + (2 : Int32)) / ln) * ln) = kx
      rw [ekx] at hK0
      refine own_gs 144 [(.ref b1)] (fun t' k => XS.aload X5.here hx rfl (hb hby at_142) rfl rfl  k) ?_
      refine own_gs 146 [(.int ii), (.ref b1)] (fun t' k => XS.iload X5.here hx rfl (hb hby at_144) rfl  k) ?_
      refine X5.callV hx hZ (y := (⟨"com/example/quotient/quotient/PackedInts", "get", "(I)J"⟩ : MethodName)) (C := "com/example/quotient/quotient/PackedInts") hown (hw _ (List.mem_of_getElem? (i := 50) rfl)) (hw _ (List.mem_of_getElem? (i := 51) rfl)) (hw _ (List.mem_of_getElem? (i := 53) rfl)) (hw _ (List.mem_of_getElem? (i := 52) rfl)) (hw _ (List.mem_of_getElem? (i := 3) rfl)) (hw _ (List.mem_of_getElem? (i := 54) rfl)) (by decide) rfl E_o [(.int ii)] [] (own_rmG l Z a0 hw [] T5.heap h0.size hn b1 b hab g_b N (own_setf (own_setf (own_setf (fun _ => 0) (I * D / 64) (own_off ii wd) mk v1) ((I + 1) * D / 64) (own_off (ii + (1 : Int32)) wd) mk v2) ((I - 1) * D / 64) (own_off (ii - (1 : Int32)) wd) mk v3) ii wd mk 0 (I * D / 64) (own_wdx hI0 (by omega) hD hD2) (own_wb hN hI2) (own_wb2 hI2 hLN2 hD2) A_b E_o Fw Fm Fs) 0 (by decide) (by decide) (Nat.le_of_eq rfl) (by decide) (by decide) (by rw [hml]; rfl) (lenOf own_pd6 rfl) rfl (hb hby at_146) ?_
      rintro T6 _ X6 ⟨rfl, e6⟩
      rw [show own_getf (own_setf (own_setf (own_setf (fun _ => 0) (I * D / 64) (own_off ii wd) mk v1) ((I + 1) * D / 64) (own_off (ii + (1 : Int32)) wd) mk v2) ((I - 1) * D / 64) (own_off (ii - (1 : Int32)) wd) mk v3) (I * D / 64) (own_off ii wd) mk = v1 from ((own_gs2 (own_offI (own_d1 hI0 hIp (by omega)) (by omega) hD hD2) (own_offI hI0 (by omega) hD hD2) hD2 hmB v3B (own_apart (by omega))).trans ((own_gs2 (own_offI (own_i1 hI0 (by omega)) (by omega) hD hD2) (own_offI hI0 (by omega) hD hD2) hD2 hmB v2B (own_apart (by omega))).trans (own_gs1 (own_offI hI0 (by omega) hD hD2) hD2 hmB v1B)))]
      show own_G p e below Fi T6 (mkF m 149 #[iv x0, iv x1, iv x2, jv x3, .second, jv x4, .second, jv x5, .second, iv ln, iv wd, jv mk, .second, iv ii, jv v1, .second, jv v2, .second, jv v3, .second, rv b1, iv (1 : Int32), iv (1 : Int32), iv kx, .unset] [(.long v1)])
      refine own_gs 151 [(.long v1), (.long v1)] (fun t' k => XS.lload X6.here hx rfl (hb hby at_149) rfl  k) ?_
      refine own_gs 152 [(.int (lcmpW v1 v1))] (fun t' k => XS.lcmp X6.here hx rfl (hb hby at_151) rfl k) ?_
      refine own_gs 155 [] (fun t' k => XS.ifNo X6.here hx rfl (hb hby at_152) rfl ((if0 _ _).trans (teq ((lw_eq v1 v1).mpr rfl)).2) k) ?_
      refine own_gs 157 [(.ref b1)] (fun t' k => XS.aload X6.here hx rfl (hb hby at_155) rfl rfl  k) ?_
      refine own_gs 159 [(.int kx), (.ref b1)] (fun t' k => XS.iload X6.here hx rfl (hb hby at_157) rfl  k) ?_
      refine X6.callV hx hZ (y := (⟨"com/example/quotient/quotient/PackedInts", "get", "(I)J"⟩ : MethodName)) (C := "com/example/quotient/quotient/PackedInts") hown (hw _ (List.mem_of_getElem? (i := 50) rfl)) (hw _ (List.mem_of_getElem? (i := 51) rfl)) (hw _ (List.mem_of_getElem? (i := 53) rfl)) (hw _ (List.mem_of_getElem? (i := 52) rfl)) (hw _ (List.mem_of_getElem? (i := 3) rfl)) (hw _ (List.mem_of_getElem? (i := 54) rfl)) (by decide) e6 E_o [(.int kx)] [] (own_rmG l Z a0 hw [] T5.heap h0.size hn b1 b hab g_b N (own_setf (own_setf (own_setf (fun _ => 0) (I * D / 64) (own_off ii wd) mk v1) ((I + 1) * D / 64) (own_off (ii + (1 : Int32)) wd) mk v2) ((I - 1) * D / 64) (own_off (ii - (1 : Int32)) wd) mk v3) kx wd mk 0 (K * D / 64) (own_wdx hK0 (by omega) hD hD2) (own_wb hN hK2) (own_wb2 hK2 hLN2 hD2) A_b E_o Fw Fm Fs) 0 (by decide) (by decide) (Nat.le_of_eq rfl) (by decide) (by decide) (by rw [hml]; rfl) (lenOf own_pd6 rfl) rfl (hb hby at_159) ?_
      rintro T7 _ X7 ⟨rfl, e7⟩
      rw [show own_getf (own_setf (own_setf (own_setf (fun _ => 0) (I * D / 64) (own_off ii wd) mk v1) ((I + 1) * D / 64) (own_off (ii + (1 : Int32)) wd) mk v2) ((I - 1) * D / 64) (own_off (ii - (1 : Int32)) wd) mk v3) (K * D / 64) (own_off kx wd) mk = (0 : Int64) from ((own_gs2 (own_offI (own_d1 hI0 hIp (by omega)) (by omega) hD hD2) (own_offI hK0 (by omega) hD hD2) hD2 hmB v3B (own_apart (by omega))).trans ((own_gs2 (own_offI (own_i1 hI0 (by omega)) (by omega) hD hD2) (own_offI hK0 (by omega) hD hD2) hD2 hmB v2B (own_apart (by omega))).trans ((own_gs2 (own_offI hI0 (by omega) hD hD2) (own_offI hK0 (by omega) hD hD2) hD2 hmB v1B (own_apart (by omega))).trans (own_gs0 (own_offI hK0 (by omega) hD hD2) hD2 hmB))))]
      show own_G p e below Fi T7 (mkF m 162 #[iv x0, iv x1, iv x2, jv x3, .second, jv x4, .second, jv x5, .second, iv ln, iv wd, jv mk, .second, iv ii, jv v1, .second, jv v2, .second, jv v3, .second, rv b1, iv (1 : Int32), iv (1 : Int32), iv kx, .unset] [(.long (0 : Int64))])
      refine own_gs 163 [(.long (0 : Int64)), (.long (0 : Int64))] (fun t' k => XS.lconst X7.here hx rfl (hb hby at_162) k) ?_
      refine own_gs 164 [(.int (lcmpW (0 : Int64) (0 : Int64)))] (fun t' k => XS.lcmp X7.here hx rfl (hb hby at_163) rfl k) ?_
      refine own_gs 167 [] (fun t' k => XS.ifNo X7.here hx rfl (hb hby at_164) rfl ((if0 _ _).trans (teq ((lw_eq (0 : Int64) (0 : Int64)).mpr rfl)).2) k) ?_
      refine own_gs 168 [(.int (1 : Int32))] (fun t' k => XS.iconst X7.here hx rfl (hb hby at_167) k) ?_
      refine own_gs 172 [(.int (1 : Int32))] (fun t' k => XS.goto X7.here hx rfl (pc0 := 168) (pc' := 172) rfl (hb hby at_168) (by decide) (by decide) k) ?_
      refine own_go (mkF m 174 #[iv x0, iv x1, iv x2, jv x3, .second, jv x4, .second, jv x5, .second, iv ln, iv wd, jv mk, .second, iv ii, jv v1, .second, jv v2, .second, jv v3, .second, rv b1, iv (1 : Int32), iv (1 : Int32), iv kx, iv (1 : Int32)] []) (fun t' k => XS.istore X7.here hx rfl (hb hby at_172) rfl rfl k) ?_
      refine own_gs 176 [(.int (1 : Int32))] (fun t' k => XS.iload X7.here hx rfl (hb hby at_174) rfl  k) ?_
      refine own_gs 179 [] (fun t' k => XS.ifNo X7.here hx rfl (hb hby at_176) rfl ((if0 _ _).trans (feq (by decide)).1) k) ?_
      refine own_gs 181 [(.int (1 : Int32))] (fun t' k => XS.iload X7.here hx rfl (hb hby at_179) rfl  k) ?_
      refine own_gs 184 [] (fun t' k => XS.ifNo X7.here hx rfl (hb hby at_181) rfl ((if0 _ _).trans (feq (by decide)).1) k) ?_
      refine own_gs 186 [(.ref b1)] (fun t' k => XS.aload X7.here hx rfl (hb hby at_184) rfl rfl  k) ?_
      refine own_gs 188 [(.int ii), (.ref b1)] (fun t' k => XS.iload X7.here hx rfl (hb hby at_186) rfl  k) ?_
      refine own_gs 189 [(.int (1 : Int32)), (.int ii), (.ref b1)] (fun t' k => XS.iconst X7.here hx rfl (hb hby at_188) k) ?_
      refine own_gs 190 [(.int (ii + (1 : Int32))), (.ref b1)] (fun t' k => XS.iadd X7.here hx rfl (hb hby at_189) rfl k) ?_
      refine X7.callV hx hZ (y := (⟨"com/example/quotient/quotient/PackedInts", "get", "(I)J"⟩ : MethodName)) (C := "com/example/quotient/quotient/PackedInts") hown (hw _ (List.mem_of_getElem? (i := 50) rfl)) (hw _ (List.mem_of_getElem? (i := 51) rfl)) (hw _ (List.mem_of_getElem? (i := 53) rfl)) (hw _ (List.mem_of_getElem? (i := 52) rfl)) (hw _ (List.mem_of_getElem? (i := 3) rfl)) (hw _ (List.mem_of_getElem? (i := 54) rfl)) (by decide) e7 E_o [(.int (ii + (1 : Int32)))] [] (own_rmG l Z a0 hw [] T5.heap h0.size hn b1 b hab g_b N (own_setf (own_setf (own_setf (fun _ => 0) (I * D / 64) (own_off ii wd) mk v1) ((I + 1) * D / 64) (own_off (ii + (1 : Int32)) wd) mk v2) ((I - 1) * D / 64) (own_off (ii - (1 : Int32)) wd) mk v3) (ii + (1 : Int32)) wd mk 0 ((I + 1) * D / 64) (own_wdx (own_i1 hI0 (by omega)) (by omega) hD hD2) (own_wb hN hIn) (own_wb2 hIn hLN2 hD2) A_b E_o Fw Fm Fs) 0 (by decide) (by decide) (Nat.le_of_eq rfl) (by decide) (by decide) (by rw [hml]; rfl) (lenOf own_pd6 rfl) rfl (hb hby at_190) ?_
      rintro T8 _ X8 ⟨rfl, e8⟩
      rw [show own_getf (own_setf (own_setf (own_setf (fun _ => 0) (I * D / 64) (own_off ii wd) mk v1) ((I + 1) * D / 64) (own_off (ii + (1 : Int32)) wd) mk v2) ((I - 1) * D / 64) (own_off (ii - (1 : Int32)) wd) mk v3) ((I + 1) * D / 64) (own_off (ii + (1 : Int32)) wd) mk = v2 from ((own_gs2 (own_offI (own_d1 hI0 hIp (by omega)) (by omega) hD hD2) (own_offI (own_i1 hI0 (by omega)) (by omega) hD hD2) hD2 hmB v3B (own_apart (by omega))).trans (own_gs1 (own_offI (own_i1 hI0 (by omega)) (by omega) hD hD2) hD2 hmB v2B))]
      show own_G p e below Fi T8 (mkF m 193 #[iv x0, iv x1, iv x2, jv x3, .second, jv x4, .second, jv x5, .second, iv ln, iv wd, jv mk, .second, iv ii, jv v1, .second, jv v2, .second, jv v3, .second, rv b1, iv (1 : Int32), iv (1 : Int32), iv kx, iv (1 : Int32)] [(.long v2)])
      refine own_gs 195 [(.long v2), (.long v2)] (fun t' k => XS.lload X8.here hx rfl (hb hby at_193) rfl  k) ?_
      refine own_gs 196 [(.int (lcmpW v2 v2))] (fun t' k => XS.lcmp X8.here hx rfl (hb hby at_195) rfl k) ?_
      refine own_gs 199 [] (fun t' k => XS.ifNo X8.here hx rfl (hb hby at_196) rfl ((if0 _ _).trans (teq ((lw_eq v2 v2).mpr rfl)).2) k) ?_
      refine own_gs 200 [(.int (1 : Int32))] (fun t' k => XS.iconst X8.here hx rfl (hb hby at_199) k) ?_
      refine own_gs 204 [(.int (1 : Int32))] (fun t' k => XS.goto X8.here hx rfl (pc0 := 200) (pc' := 204) rfl (hb hby at_200) (by decide) (by decide) k) ?_
      refine own_gs 206 [] (fun t' k => XS.istore X8.here hx rfl (hb hby at_204) rfl rfl k) ?_
      refine own_gs 208 [(.int (1 : Int32))] (fun t' k => XS.iload X8.here hx rfl (hb hby at_206) rfl  k) ?_
      refine own_gs 211 [] (fun t' k => XS.ifNo X8.here hx rfl (hb hby at_208) rfl ((if0 _ _).trans (feq (by decide)).1) k) ?_
      refine own_gs 213 [(.int (1 : Int32))] (fun t' k => XS.iload X8.here hx rfl (hb hby at_211) rfl  k) ?_
      refine own_gs 216 [] (fun t' k => XS.ifNo X8.here hx rfl (hb hby at_213) rfl ((if0 _ _).trans (feq (by decide)).1) k) ?_
      refine own_gs 218 [(.ref b1)] (fun t' k => XS.aload X8.here hx rfl (hb hby at_216) rfl rfl  k) ?_
      refine own_gs 220 [(.int ii), (.ref b1)] (fun t' k => XS.iload X8.here hx rfl (hb hby at_218) rfl  k) ?_
      refine own_gs 221 [(.int (1 : Int32)), (.int ii), (.ref b1)] (fun t' k => XS.iconst X8.here hx rfl (hb hby at_220) k) ?_
      refine own_gs 222 [(.int (ii - (1 : Int32))), (.ref b1)] (fun t' k => XS.isub X8.here hx rfl (hb hby at_221) rfl k) ?_
      refine X8.callV hx hZ (y := (⟨"com/example/quotient/quotient/PackedInts", "get", "(I)J"⟩ : MethodName)) (C := "com/example/quotient/quotient/PackedInts") hown (hw _ (List.mem_of_getElem? (i := 50) rfl)) (hw _ (List.mem_of_getElem? (i := 51) rfl)) (hw _ (List.mem_of_getElem? (i := 53) rfl)) (hw _ (List.mem_of_getElem? (i := 52) rfl)) (hw _ (List.mem_of_getElem? (i := 3) rfl)) (hw _ (List.mem_of_getElem? (i := 54) rfl)) (by decide) e8 E_o [(.int (ii - (1 : Int32)))] [] (own_rmG l Z a0 hw [] T5.heap h0.size hn b1 b hab g_b N (own_setf (own_setf (own_setf (fun _ => 0) (I * D / 64) (own_off ii wd) mk v1) ((I + 1) * D / 64) (own_off (ii + (1 : Int32)) wd) mk v2) ((I - 1) * D / 64) (own_off (ii - (1 : Int32)) wd) mk v3) (ii - (1 : Int32)) wd mk 0 ((I - 1) * D / 64) (own_wdx (own_d1 hI0 hIp (by omega)) (by omega) hD hD2) (own_wb hN (by omega : I - 1 < LN)) (own_wb2 (by omega : I - 1 < LN) hLN2 hD2) A_b E_o Fw Fm Fs) 0 (by decide) (by decide) (Nat.le_of_eq rfl) (by decide) (by decide) (by rw [hml]; rfl) (lenOf own_pd6 rfl) rfl (hb hby at_222) ?_
      rintro T9 _ X9 ⟨rfl, e9⟩
      rw [show own_getf (own_setf (own_setf (own_setf (fun _ => 0) (I * D / 64) (own_off ii wd) mk v1) ((I + 1) * D / 64) (own_off (ii + (1 : Int32)) wd) mk v2) ((I - 1) * D / 64) (own_off (ii - (1 : Int32)) wd) mk v3) ((I - 1) * D / 64) (own_off (ii - (1 : Int32)) wd) mk = v3 from (own_gs1 (own_offI (own_d1 hI0 hIp (by omega)) (by omega) hD hD2) hD2 hmB v3B)]
      show own_G p e below Fi T9 (mkF m 225 #[iv x0, iv x1, iv x2, jv x3, .second, jv x4, .second, jv x5, .second, iv ln, iv wd, jv mk, .second, iv ii, jv v1, .second, jv v2, .second, jv v3, .second, rv b1, iv (1 : Int32), iv (1 : Int32), iv kx, iv (1 : Int32)] [(.long v3)])
      refine own_gs 227 [(.long v3), (.long v3)] (fun t' k => XS.lload X9.here hx rfl (hb hby at_225) rfl  k) ?_
      refine own_gs 228 [(.int (lcmpW v3 v3))] (fun t' k => XS.lcmp X9.here hx rfl (hb hby at_227) rfl k) ?_
      refine own_gs 231 [] (fun t' k => XS.ifNo X9.here hx rfl (hb hby at_228) rfl ((if0 _ _).trans (teq ((lw_eq v3 v3).mpr rfl)).2) k) ?_
      refine own_gs 232 [(.int (1 : Int32))] (fun t' k => XS.iconst X9.here hx rfl (hb hby at_231) k) ?_
      refine own_gs 236 [(.int (1 : Int32))] (fun t' k => XS.goto X9.here hx rfl (pc0 := 232) (pc' := 236) rfl (hb hby at_232) (by decide) (by decide) k) ?_
      refine own_gs 238 [] (fun t' k => XS.istore X9.here hx rfl (hb hby at_236) rfl rfl k) ?_
      refine own_gs 240 [(.int (1 : Int32))] (fun t' k => XS.iload X9.here hx rfl (hb hby at_238) rfl  k) ?_
      refine X9.retZ (hFW _ _ hS) (by first | exact hk | (rw [e9]; exact hk)) hx hlk hret (hb hby at_240) ?_ (by decide) (by decide)
      exact rfl
    · skip
      refine own_gs 98 [] (fun t' k => XS.ifYes X3.here hx rfl (pc0 := 91) (pc' := 98) rfl (hb hby at_91) rfl ((if0 _ _).trans (flt hc91).2.2.2) (by decide) (by decide) k) ?_
      refine own_gs 99 [(.int (0 : Int32))] (fun t' k => XS.iconst X3.here hx rfl (hb hby at_98) k) ?_
      refine own_go (mkF m 101 #[iv x0, iv x1, iv x2, jv x3, .second, jv x4, .second, jv x5, .second, iv ln, iv wd, jv mk, .second, iv ii, jv v1, .second, jv v2, .second, jv v3, .second, rv b1, iv (1 : Int32), iv (0 : Int32), .unset, .unset] []) (fun t' k => XS.istore X3.here hx rfl (hb hby at_99) rfl rfl k) ?_
      refine own_gs 103 [(.int (1 : Int32))] (fun t' k => XS.iload X3.here hx rfl (hb hby at_101) rfl  k) ?_
      refine own_gs 106 [] (fun t' k => XS.ifNo X3.here hx rfl (hb hby at_103) rfl ((if0 _ _).trans (feq (by decide)).1) k) ?_
      refine own_gs 108 [(.ref b1)] (fun t' k => XS.aload X3.here hx rfl (hb hby at_106) rfl rfl  k) ?_
      refine own_gs 110 [(.int ii), (.ref b1)] (fun t' k => XS.iload X3.here hx rfl (hb hby at_108) rfl  k) ?_
      refine own_gs 111 [(.int (1 : Int32)), (.int ii), (.ref b1)] (fun t' k => XS.iconst X3.here hx rfl (hb hby at_110) k) ?_
      refine own_gs 112 [(.int (ii + (1 : Int32))), (.ref b1)] (fun t' k => XS.iadd X3.here hx rfl (hb hby at_111) rfl k) ?_
      refine own_gs 114 [(.long v2), (.int (ii + (1 : Int32))), (.ref b1)] (fun t' k => XS.lload X3.here hx rfl (hb hby at_112) rfl  k) ?_
      refine X3.callV hx hZ (y := (⟨"com/example/quotient/quotient/PackedInts", "set", "(IJ)V"⟩ : MethodName)) (C := "com/example/quotient/quotient/PackedInts") hown (hw _ (List.mem_of_getElem? (i := 44) rfl)) (hw _ (List.mem_of_getElem? (i := 45) rfl)) (hw _ (List.mem_of_getElem? (i := 47) rfl)) (hw _ (List.mem_of_getElem? (i := 46) rfl)) (hw _ (List.mem_of_getElem? (i := 3) rfl)) (hw _ (List.mem_of_getElem? (i := 48) rfl)) (by decide) rfl E_o [(.int (ii + (1 : Int32))), (.long v2)] [] (own_rmS l Z a0 hw [] T3.heap h0.size hn b1 b hab g_b N (own_setf (fun _ => 0) (I * D / 64) (own_off ii wd) mk v1) (ii + (1 : Int32)) wd mk v2 ((I + 1) * D / 64) (own_wdx (own_i1 hI0 (by omega)) (by omega) hD hD2) (own_wb hN hIn) (own_wb2 hIn hLN2 hD2) A_b E_o Fw Fm Fs v2L) 0 (by decide) (by decide) (Nat.le_of_eq rfl) (by decide) (by decide) (by rw [hml]; rfl) (lenOf own_pd5 rfl) rfl (hb hby at_114) ?_
      rintro T10 _ X10 ⟨rfl, K10, A10⟩
      replace A_b := A10
      replace E_o := E_o.keep K10
      replace Fw := Fw.keep K10 (ninS (Nat.ne_of_lt hab) nin0)
      replace Fm := Fm.keep K10 (ninS (Nat.ne_of_lt hab) nin0)
      replace Fs := Fs.keep K10 (ninS (Nat.ne_of_lt hab) nin0)
      replace hn := Nat.le_trans hn K10.1
      replace hk := Nat.le_trans hk K10.1
      show own_G p e below Fi T10 (mkF m 117 #[iv x0, iv x1, iv x2, jv x3, .second, jv x4, .second, jv x5, .second, iv ln, iv wd, jv mk, .second, iv ii, jv v1, .second, jv v2, .second, jv v3, .second, rv b1, iv (1 : Int32), iv (0 : Int32), .unset, .unset] [])
      refine own_gs 119 [(.int (0 : Int32))] (fun t' k => XS.iload X10.here hx rfl (hb hby at_117) rfl  k) ?_
      refine own_gs 133 [] (fun t' k => XS.ifYes X10.here hx rfl (pc0 := 119) (pc' := 133) rfl (hb hby at_119) rfl ((if0 _ _).trans (teq (by decide)).1) (by decide) (by decide) k) ?_
      refine own_gs 135 [(.int ii)] (fun t' k => XS.iload X10.here hx rfl (hb hby at_133) rfl  k) ?_
      refine own_gs 136 [(.int (2 : Int32)), (.int ii)] (fun t' k => XS.iconst X10.here hx rfl (hb hby at_135) k) ?_
      refine own_gs 137 [(.int (ii + (2 : Int32)))] (fun t' k => XS.iadd X10.here hx rfl (hb hby at_136) rfl k) ?_
      refine own_gs 139 [(.int ln), (.int (ii + (2 : Int32)))] (fun t' k => XS.iload X10.here hx rfl (hb hby at_137) rfl  k) ?_
      refine own_gs 140 [(.int ((ii + (2 : Int32)) - ((ii + (2 : Int32)) / ln) * ln))] (fun t' k => XS.irem X10.here hx rfl (hb hby at_139) rfl hln0 k) ?_
      refine own_go (mkF m 142 #[iv x0, iv x1, iv x2, jv x3, .second, jv x4, .second, jv x5, .second, iv ln, iv wd, jv mk, .second, iv ii, jv v1, .second, jv v2, .second, jv v3, .second, rv b1, iv (1 : Int32), iv (0 : Int32), iv ((ii + (2 : Int32)) - ((ii + (2 : Int32)) / ln) * ln), .unset] []) (fun t' k => XS.istore X10.here hx rfl (hb hby at_140) rfl rfl k) ?_
      have hK0 := own_rem (own_i2 hI0 (by omega)) hLN (by omega) (by omega) (by omega)
      obtain ⟨K, hK'⟩ : ∃ K, K = (I + 2) % LN := ⟨_, rfl⟩
      have hK2 : K < LN := by rw [hK']; exact Nat.mod_lt _ (by omega)
      rw [← hK'] at hK0
      have hK3 : K ≠ I ∧ K ≠ I + 1 ∧ K + 1 ≠ I := by
        by_cases r : I + 2 < LN
        · rw [Nat.mod_eq_of_lt r] at hK'; omega
        · rw [Nat.mod_eq_sub_mod (by omega), Nat.mod_eq_of_lt (by omega)] at hK'; omega
      generalize ekx : ((ii + (2 : Int32)) - ((ii + (2 : Int32)) / ln) * ln) = kx
      rw [ekx] at hK0
      refine own_gs 144 [(.ref b1)] (fun t' k => XS.aload X10.here hx rfl (hb hby at_142) rfl rfl  k) ?_
      refine own_gs 146 [(.int ii), (.ref b1)] (fun t' k => XS.iload X10.here hx rfl (hb hby at_144) rfl  k) ?_
      refine X10.callV hx hZ (y := (⟨"com/example/quotient/quotient/PackedInts", "get", "(I)J"⟩ : MethodName)) (C := "com/example/quotient/quotient/PackedInts") hown (hw _ (List.mem_of_getElem? (i := 50) rfl)) (hw _ (List.mem_of_getElem? (i := 51) rfl)) (hw _ (List.mem_of_getElem? (i := 53) rfl)) (hw _ (List.mem_of_getElem? (i := 52) rfl)) (hw _ (List.mem_of_getElem? (i := 3) rfl)) (hw _ (List.mem_of_getElem? (i := 54) rfl)) (by decide) rfl E_o [(.int ii)] [] (own_rmG l Z a0 hw [] T10.heap h0.size hn b1 b hab g_b N (own_setf (own_setf (fun _ => 0) (I * D / 64) (own_off ii wd) mk v1) ((I + 1) * D / 64) (own_off (ii + (1 : Int32)) wd) mk v2) ii wd mk 0 (I * D / 64) (own_wdx hI0 (by omega) hD hD2) (own_wb hN hI2) (own_wb2 hI2 hLN2 hD2) A_b E_o Fw Fm Fs) 0 (by decide) (by decide) (Nat.le_of_eq rfl) (by decide) (by decide) (by rw [hml]; rfl) (lenOf own_pd6 rfl) rfl (hb hby at_146) ?_
      rintro T11 _ X11 ⟨rfl, e11⟩
      rw [show own_getf (own_setf (own_setf (fun _ => 0) (I * D / 64) (own_off ii wd) mk v1) ((I + 1) * D / 64) (own_off (ii + (1 : Int32)) wd) mk v2) (I * D / 64) (own_off ii wd) mk = v1 from ((own_gs2 (own_offI (own_i1 hI0 (by omega)) (by omega) hD hD2) (own_offI hI0 (by omega) hD hD2) hD2 hmB v2B (own_apart (by omega))).trans (own_gs1 (own_offI hI0 (by omega) hD hD2) hD2 hmB v1B))]
      show own_G p e below Fi T11 (mkF m 149 #[iv x0, iv x1, iv x2, jv x3, .second, jv x4, .second, jv x5, .second, iv ln, iv wd, jv mk, .second, iv ii, jv v1, .second, jv v2, .second, jv v3, .second, rv b1, iv (1 : Int32), iv (0 : Int32), iv kx, .unset] [(.long v1)])
      refine own_gs 151 [(.long v1), (.long v1)] (fun t' k => XS.lload X11.here hx rfl (hb hby at_149) rfl  k) ?_
      refine own_gs 152 [(.int (lcmpW v1 v1))] (fun t' k => XS.lcmp X11.here hx rfl (hb hby at_151) rfl k) ?_
      refine own_gs 155 [] (fun t' k => XS.ifNo X11.here hx rfl (hb hby at_152) rfl ((if0 _ _).trans (teq ((lw_eq v1 v1).mpr rfl)).2) k) ?_
      refine own_gs 157 [(.ref b1)] (fun t' k => XS.aload X11.here hx rfl (hb hby at_155) rfl rfl  k) ?_
      refine own_gs 159 [(.int kx), (.ref b1)] (fun t' k => XS.iload X11.here hx rfl (hb hby at_157) rfl  k) ?_
      refine X11.callV hx hZ (y := (⟨"com/example/quotient/quotient/PackedInts", "get", "(I)J"⟩ : MethodName)) (C := "com/example/quotient/quotient/PackedInts") hown (hw _ (List.mem_of_getElem? (i := 50) rfl)) (hw _ (List.mem_of_getElem? (i := 51) rfl)) (hw _ (List.mem_of_getElem? (i := 53) rfl)) (hw _ (List.mem_of_getElem? (i := 52) rfl)) (hw _ (List.mem_of_getElem? (i := 3) rfl)) (hw _ (List.mem_of_getElem? (i := 54) rfl)) (by decide) e11 E_o [(.int kx)] [] (own_rmG l Z a0 hw [] T10.heap h0.size hn b1 b hab g_b N (own_setf (own_setf (fun _ => 0) (I * D / 64) (own_off ii wd) mk v1) ((I + 1) * D / 64) (own_off (ii + (1 : Int32)) wd) mk v2) kx wd mk 0 (K * D / 64) (own_wdx hK0 (by omega) hD hD2) (own_wb hN hK2) (own_wb2 hK2 hLN2 hD2) A_b E_o Fw Fm Fs) 0 (by decide) (by decide) (Nat.le_of_eq rfl) (by decide) (by decide) (by rw [hml]; rfl) (lenOf own_pd6 rfl) rfl (hb hby at_159) ?_
      rintro T12 _ X12 ⟨rfl, e12⟩
      rw [show own_getf (own_setf (own_setf (fun _ => 0) (I * D / 64) (own_off ii wd) mk v1) ((I + 1) * D / 64) (own_off (ii + (1 : Int32)) wd) mk v2) (K * D / 64) (own_off kx wd) mk = (0 : Int64) from ((own_gs2 (own_offI (own_i1 hI0 (by omega)) (by omega) hD hD2) (own_offI hK0 (by omega) hD hD2) hD2 hmB v2B (own_apart (by omega))).trans ((own_gs2 (own_offI hI0 (by omega) hD hD2) (own_offI hK0 (by omega) hD hD2) hD2 hmB v1B (own_apart (by omega))).trans (own_gs0 (own_offI hK0 (by omega) hD hD2) hD2 hmB)))]
      show own_G p e below Fi T12 (mkF m 162 #[iv x0, iv x1, iv x2, jv x3, .second, jv x4, .second, jv x5, .second, iv ln, iv wd, jv mk, .second, iv ii, jv v1, .second, jv v2, .second, jv v3, .second, rv b1, iv (1 : Int32), iv (0 : Int32), iv kx, .unset] [(.long (0 : Int64))])
      refine own_gs 163 [(.long (0 : Int64)), (.long (0 : Int64))] (fun t' k => XS.lconst X12.here hx rfl (hb hby at_162) k) ?_
      refine own_gs 164 [(.int (lcmpW (0 : Int64) (0 : Int64)))] (fun t' k => XS.lcmp X12.here hx rfl (hb hby at_163) rfl k) ?_
      refine own_gs 167 [] (fun t' k => XS.ifNo X12.here hx rfl (hb hby at_164) rfl ((if0 _ _).trans (teq ((lw_eq (0 : Int64) (0 : Int64)).mpr rfl)).2) k) ?_
      refine own_gs 168 [(.int (1 : Int32))] (fun t' k => XS.iconst X12.here hx rfl (hb hby at_167) k) ?_
      refine own_gs 172 [(.int (1 : Int32))] (fun t' k => XS.goto X12.here hx rfl (pc0 := 168) (pc' := 172) rfl (hb hby at_168) (by decide) (by decide) k) ?_
      refine own_go (mkF m 174 #[iv x0, iv x1, iv x2, jv x3, .second, jv x4, .second, jv x5, .second, iv ln, iv wd, jv mk, .second, iv ii, jv v1, .second, jv v2, .second, jv v3, .second, rv b1, iv (1 : Int32), iv (0 : Int32), iv kx, iv (1 : Int32)] []) (fun t' k => XS.istore X12.here hx rfl (hb hby at_172) rfl rfl k) ?_
      refine own_gs 176 [(.int (1 : Int32))] (fun t' k => XS.iload X12.here hx rfl (hb hby at_174) rfl  k) ?_
      refine own_gs 179 [] (fun t' k => XS.ifNo X12.here hx rfl (hb hby at_176) rfl ((if0 _ _).trans (feq (by decide)).1) k) ?_
      refine own_gs 181 [(.int (1 : Int32))] (fun t' k => XS.iload X12.here hx rfl (hb hby at_179) rfl  k) ?_
      refine own_gs 184 [] (fun t' k => XS.ifNo X12.here hx rfl (hb hby at_181) rfl ((if0 _ _).trans (feq (by decide)).1) k) ?_
      refine own_gs 186 [(.ref b1)] (fun t' k => XS.aload X12.here hx rfl (hb hby at_184) rfl rfl  k) ?_
      refine own_gs 188 [(.int ii), (.ref b1)] (fun t' k => XS.iload X12.here hx rfl (hb hby at_186) rfl  k) ?_
      refine own_gs 189 [(.int (1 : Int32)), (.int ii), (.ref b1)] (fun t' k => XS.iconst X12.here hx rfl (hb hby at_188) k) ?_
      refine own_gs 190 [(.int (ii + (1 : Int32))), (.ref b1)] (fun t' k => XS.iadd X12.here hx rfl (hb hby at_189) rfl k) ?_
      refine X12.callV hx hZ (y := (⟨"com/example/quotient/quotient/PackedInts", "get", "(I)J"⟩ : MethodName)) (C := "com/example/quotient/quotient/PackedInts") hown (hw _ (List.mem_of_getElem? (i := 50) rfl)) (hw _ (List.mem_of_getElem? (i := 51) rfl)) (hw _ (List.mem_of_getElem? (i := 53) rfl)) (hw _ (List.mem_of_getElem? (i := 52) rfl)) (hw _ (List.mem_of_getElem? (i := 3) rfl)) (hw _ (List.mem_of_getElem? (i := 54) rfl)) (by decide) e12 E_o [(.int (ii + (1 : Int32)))] [] (own_rmG l Z a0 hw [] T10.heap h0.size hn b1 b hab g_b N (own_setf (own_setf (fun _ => 0) (I * D / 64) (own_off ii wd) mk v1) ((I + 1) * D / 64) (own_off (ii + (1 : Int32)) wd) mk v2) (ii + (1 : Int32)) wd mk 0 ((I + 1) * D / 64) (own_wdx (own_i1 hI0 (by omega)) (by omega) hD hD2) (own_wb hN hIn) (own_wb2 hIn hLN2 hD2) A_b E_o Fw Fm Fs) 0 (by decide) (by decide) (Nat.le_of_eq rfl) (by decide) (by decide) (by rw [hml]; rfl) (lenOf own_pd6 rfl) rfl (hb hby at_190) ?_
      rintro T13 _ X13 ⟨rfl, e13⟩
      rw [show own_getf (own_setf (own_setf (fun _ => 0) (I * D / 64) (own_off ii wd) mk v1) ((I + 1) * D / 64) (own_off (ii + (1 : Int32)) wd) mk v2) ((I + 1) * D / 64) (own_off (ii + (1 : Int32)) wd) mk = v2 from (own_gs1 (own_offI (own_i1 hI0 (by omega)) (by omega) hD hD2) hD2 hmB v2B)]
      show own_G p e below Fi T13 (mkF m 193 #[iv x0, iv x1, iv x2, jv x3, .second, jv x4, .second, jv x5, .second, iv ln, iv wd, jv mk, .second, iv ii, jv v1, .second, jv v2, .second, jv v3, .second, rv b1, iv (1 : Int32), iv (0 : Int32), iv kx, iv (1 : Int32)] [(.long v2)])
      refine own_gs 195 [(.long v2), (.long v2)] (fun t' k => XS.lload X13.here hx rfl (hb hby at_193) rfl  k) ?_
      refine own_gs 196 [(.int (lcmpW v2 v2))] (fun t' k => XS.lcmp X13.here hx rfl (hb hby at_195) rfl k) ?_
      refine own_gs 199 [] (fun t' k => XS.ifNo X13.here hx rfl (hb hby at_196) rfl ((if0 _ _).trans (teq ((lw_eq v2 v2).mpr rfl)).2) k) ?_
      refine own_gs 200 [(.int (1 : Int32))] (fun t' k => XS.iconst X13.here hx rfl (hb hby at_199) k) ?_
      refine own_gs 204 [(.int (1 : Int32))] (fun t' k => XS.goto X13.here hx rfl (pc0 := 200) (pc' := 204) rfl (hb hby at_200) (by decide) (by decide) k) ?_
      refine own_gs 206 [] (fun t' k => XS.istore X13.here hx rfl (hb hby at_204) rfl rfl k) ?_
      refine own_gs 208 [(.int (0 : Int32))] (fun t' k => XS.iload X13.here hx rfl (hb hby at_206) rfl  k) ?_
      refine own_gs 238 [] (fun t' k => XS.ifYes X13.here hx rfl (pc0 := 208) (pc' := 238) rfl (hb hby at_208) rfl ((if0 _ _).trans (teq (by decide)).1) (by decide) (by decide) k) ?_
      refine own_gs 240 [(.int (1 : Int32))] (fun t' k => XS.iload X13.here hx rfl (hb hby at_238) rfl  k) ?_
      refine X13.retZ (hFW _ _ hS) (by first | exact hk | (rw [e13]; exact hk)) hx hlk hret (hb hby at_240) ?_ (by decide) (by decide)
      exact rfl
  · skip
    refine own_gs 86 [] (fun t' k => XS.icmpYes X3.here hx rfl (pc0 := 79) (pc' := 86) rfl (hb hby at_79) rfl (flt hc79).2.1 (by decide) (by decide) k) ?_
    refine own_gs 87 [(.int (0 : Int32))] (fun t' k => XS.iconst X3.here hx rfl (hb hby at_86) k) ?_
    refine own_go (mkF m 89 #[iv x0, iv x1, iv x2, jv x3, .second, jv x4, .second, jv x5, .second, iv ln, iv wd, jv mk, .second, iv ii, jv v1, .second, jv v2, .second, jv v3, .second, rv b1, iv (0 : Int32), .unset, .unset, .unset] []) (fun t' k => XS.istore X3.here hx rfl (hb hby at_87) rfl rfl k) ?_
    refine own_gs 91 [(.int ii)] (fun t' k => XS.iload X3.here hx rfl (hb hby at_89) rfl  k) ?_
    by_cases hc91 : (0 : Int32) < ii
    · skip
      refine own_gs 94 [] (fun t' k => XS.ifNo X3.here hx rfl (hb hby at_91) rfl ((if0 _ _).trans (tlt hc91).2.2.2) k) ?_
      have hIp : 0 < I := by have := Int32.lt_iff_toInt_lt.mp hc91; rw [hI0, show (0 : Int32).toInt = 0 from rfl] at this; omega
      refine own_gs 95 [(.int (1 : Int32))] (fun t' k => XS.iconst X3.here hx rfl (hb hby at_94) k) ?_
      refine own_gs 99 [(.int (1 : Int32))] (fun t' k => XS.goto X3.here hx rfl (pc0 := 95) (pc' := 99) rfl (hb hby at_95) (by decide) (by decide) k) ?_
      refine own_go (mkF m 101 #[iv x0, iv x1, iv x2, jv x3, .second, jv x4, .second, jv x5, .second, iv ln, iv wd, jv mk, .second, iv ii, jv v1, .second, jv v2, .second, jv v3, .second, rv b1, iv (0 : Int32), iv (1 : Int32), .unset, .unset] []) (fun t' k => XS.istore X3.here hx rfl (hb hby at_99) rfl rfl k) ?_
      refine own_gs 103 [(.int (0 : Int32))] (fun t' k => XS.iload X3.here hx rfl (hb hby at_101) rfl  k) ?_
      refine own_gs 117 [] (fun t' k => XS.ifYes X3.here hx rfl (pc0 := 103) (pc' := 117) rfl (hb hby at_103) rfl ((if0 _ _).trans (teq (by decide)).1) (by decide) (by decide) k) ?_
      refine own_gs 119 [(.int (1 : Int32))] (fun t' k => XS.iload X3.here hx rfl (hb hby at_117) rfl  k) ?_
      refine own_gs 122 [] (fun t' k => XS.ifNo X3.here hx rfl (hb hby at_119) rfl ((if0 _ _).trans (feq (by decide)).1) k) ?_
      refine own_gs 124 [(.ref b1)] (fun t' k => XS.aload X3.here hx rfl (hb hby at_122) rfl rfl  k) ?_
      refine own_gs 126 [(.int ii), (.ref b1)] (fun t' k => XS.iload X3.here hx rfl (hb hby at_124) rfl  k) ?_
      refine own_gs 127 [(.int (1 : Int32)), (.int ii), (.ref b1)] (fun t' k => XS.iconst X3.here hx rfl (hb hby at_126) k) ?_
      refine own_gs 128 [(.int (ii - (1 : Int32))), (.ref b1)] (fun t' k => XS.isub X3.here hx rfl (hb hby at_127) rfl k) ?_
      refine own_gs 130 [(.long v3), (.int (ii - (1 : Int32))), (.ref b1)] (fun t' k => XS.lload X3.here hx rfl (hb hby at_128) rfl  k) ?_
      refine X3.callV hx hZ (y := (⟨"com/example/quotient/quotient/PackedInts", "set", "(IJ)V"⟩ : MethodName)) (C := "com/example/quotient/quotient/PackedInts") hown (hw _ (List.mem_of_getElem? (i := 44) rfl)) (hw _ (List.mem_of_getElem? (i := 45) rfl)) (hw _ (List.mem_of_getElem? (i := 47) rfl)) (hw _ (List.mem_of_getElem? (i := 46) rfl)) (hw _ (List.mem_of_getElem? (i := 3) rfl)) (hw _ (List.mem_of_getElem? (i := 48) rfl)) (by decide) rfl E_o [(.int (ii - (1 : Int32))), (.long v3)] [] (own_rmS l Z a0 hw [] T3.heap h0.size hn b1 b hab g_b N (own_setf (fun _ => 0) (I * D / 64) (own_off ii wd) mk v1) (ii - (1 : Int32)) wd mk v3 ((I - 1) * D / 64) (own_wdx (own_d1 hI0 hIp (by omega)) (by omega) hD hD2) (own_wb hN (by omega : I - 1 < LN)) (own_wb2 (by omega : I - 1 < LN) hLN2 hD2) A_b E_o Fw Fm Fs v3L) 0 (by decide) (by decide) (Nat.le_of_eq rfl) (by decide) (by decide) (by rw [hml]; rfl) (lenOf own_pd5 rfl) rfl (hb hby at_130) ?_
      rintro T14 _ X14 ⟨rfl, K14, A14⟩
      replace A_b := A14
      replace E_o := E_o.keep K14
      replace Fw := Fw.keep K14 (ninS (Nat.ne_of_lt hab) nin0)
      replace Fm := Fm.keep K14 (ninS (Nat.ne_of_lt hab) nin0)
      replace Fs := Fs.keep K14 (ninS (Nat.ne_of_lt hab) nin0)
      replace hn := Nat.le_trans hn K14.1
      replace hk := Nat.le_trans hk K14.1
      show own_G p e below Fi T14 (mkF m 133 #[iv x0, iv x1, iv x2, jv x3, .second, jv x4, .second, jv x5, .second, iv ln, iv wd, jv mk, .second, iv ii, jv v1, .second, jv v2, .second, jv v3, .second, rv b1, iv (0 : Int32), iv (1 : Int32), .unset, .unset] [])
      refine own_gs 135 [(.int ii)] (fun t' k => XS.iload X14.here hx rfl (hb hby at_133) rfl  k) ?_
      refine own_gs 136 [(.int (2 : Int32)), (.int ii)] (fun t' k => XS.iconst X14.here hx rfl (hb hby at_135) k) ?_
      refine own_gs 137 [(.int (ii + (2 : Int32)))] (fun t' k => XS.iadd X14.here hx rfl (hb hby at_136) rfl k) ?_
      refine own_gs 139 [(.int ln), (.int (ii + (2 : Int32)))] (fun t' k => XS.iload X14.here hx rfl (hb hby at_137) rfl  k) ?_
      refine own_gs 140 [(.int ((ii + (2 : Int32)) - ((ii + (2 : Int32)) / ln) * ln))] (fun t' k => XS.irem X14.here hx rfl (hb hby at_139) rfl hln0 k) ?_
      refine own_go (mkF m 142 #[iv x0, iv x1, iv x2, jv x3, .second, jv x4, .second, jv x5, .second, iv ln, iv wd, jv mk, .second, iv ii, jv v1, .second, jv v2, .second, jv v3, .second, rv b1, iv (0 : Int32), iv (1 : Int32), iv ((ii + (2 : Int32)) - ((ii + (2 : Int32)) / ln) * ln), .unset] []) (fun t' k => XS.istore X14.here hx rfl (hb hby at_140) rfl rfl k) ?_
      have hK0 := own_rem (own_i2 hI0 (by omega)) hLN (by omega) (by omega) (by omega)
      obtain ⟨K, hK'⟩ : ∃ K, K = (I + 2) % LN := ⟨_, rfl⟩
      have hK2 : K < LN := by rw [hK']; exact Nat.mod_lt _ (by omega)
      rw [← hK'] at hK0
      have hK3 : K ≠ I ∧ K ≠ I + 1 ∧ K + 1 ≠ I := by
        by_cases r : I + 2 < LN
        · rw [Nat.mod_eq_of_lt r] at hK'; omega
        · rw [Nat.mod_eq_sub_mod (by omega), Nat.mod_eq_of_lt (by omega)] at hK'; omega
      generalize ekx : ((ii + (2 : Int32)) - ((ii + (2 : Int32)) / ln) * ln) = kx
      rw [ekx] at hK0
      refine own_gs 144 [(.ref b1)] (fun t' k => XS.aload X14.here hx rfl (hb hby at_142) rfl rfl  k) ?_
      refine own_gs 146 [(.int ii), (.ref b1)] (fun t' k => XS.iload X14.here hx rfl (hb hby at_144) rfl  k) ?_
      refine X14.callV hx hZ (y := (⟨"com/example/quotient/quotient/PackedInts", "get", "(I)J"⟩ : MethodName)) (C := "com/example/quotient/quotient/PackedInts") hown (hw _ (List.mem_of_getElem? (i := 50) rfl)) (hw _ (List.mem_of_getElem? (i := 51) rfl)) (hw _ (List.mem_of_getElem? (i := 53) rfl)) (hw _ (List.mem_of_getElem? (i := 52) rfl)) (hw _ (List.mem_of_getElem? (i := 3) rfl)) (hw _ (List.mem_of_getElem? (i := 54) rfl)) (by decide) rfl E_o [(.int ii)] [] (own_rmG l Z a0 hw [] T14.heap h0.size hn b1 b hab g_b N (own_setf (own_setf (fun _ => 0) (I * D / 64) (own_off ii wd) mk v1) ((I - 1) * D / 64) (own_off (ii - (1 : Int32)) wd) mk v3) ii wd mk 0 (I * D / 64) (own_wdx hI0 (by omega) hD hD2) (own_wb hN hI2) (own_wb2 hI2 hLN2 hD2) A_b E_o Fw Fm Fs) 0 (by decide) (by decide) (Nat.le_of_eq rfl) (by decide) (by decide) (by rw [hml]; rfl) (lenOf own_pd6 rfl) rfl (hb hby at_146) ?_
      rintro T15 _ X15 ⟨rfl, e15⟩
      rw [show own_getf (own_setf (own_setf (fun _ => 0) (I * D / 64) (own_off ii wd) mk v1) ((I - 1) * D / 64) (own_off (ii - (1 : Int32)) wd) mk v3) (I * D / 64) (own_off ii wd) mk = v1 from ((own_gs2 (own_offI (own_d1 hI0 hIp (by omega)) (by omega) hD hD2) (own_offI hI0 (by omega) hD hD2) hD2 hmB v3B (own_apart (by omega))).trans (own_gs1 (own_offI hI0 (by omega) hD hD2) hD2 hmB v1B))]
      show own_G p e below Fi T15 (mkF m 149 #[iv x0, iv x1, iv x2, jv x3, .second, jv x4, .second, jv x5, .second, iv ln, iv wd, jv mk, .second, iv ii, jv v1, .second, jv v2, .second, jv v3, .second, rv b1, iv (0 : Int32), iv (1 : Int32), iv kx, .unset] [(.long v1)])
      refine own_gs 151 [(.long v1), (.long v1)] (fun t' k => XS.lload X15.here hx rfl (hb hby at_149) rfl  k) ?_
      refine own_gs 152 [(.int (lcmpW v1 v1))] (fun t' k => XS.lcmp X15.here hx rfl (hb hby at_151) rfl k) ?_
      refine own_gs 155 [] (fun t' k => XS.ifNo X15.here hx rfl (hb hby at_152) rfl ((if0 _ _).trans (teq ((lw_eq v1 v1).mpr rfl)).2) k) ?_
      refine own_gs 157 [(.ref b1)] (fun t' k => XS.aload X15.here hx rfl (hb hby at_155) rfl rfl  k) ?_
      refine own_gs 159 [(.int kx), (.ref b1)] (fun t' k => XS.iload X15.here hx rfl (hb hby at_157) rfl  k) ?_
      refine X15.callV hx hZ (y := (⟨"com/example/quotient/quotient/PackedInts", "get", "(I)J"⟩ : MethodName)) (C := "com/example/quotient/quotient/PackedInts") hown (hw _ (List.mem_of_getElem? (i := 50) rfl)) (hw _ (List.mem_of_getElem? (i := 51) rfl)) (hw _ (List.mem_of_getElem? (i := 53) rfl)) (hw _ (List.mem_of_getElem? (i := 52) rfl)) (hw _ (List.mem_of_getElem? (i := 3) rfl)) (hw _ (List.mem_of_getElem? (i := 54) rfl)) (by decide) e15 E_o [(.int kx)] [] (own_rmG l Z a0 hw [] T14.heap h0.size hn b1 b hab g_b N (own_setf (own_setf (fun _ => 0) (I * D / 64) (own_off ii wd) mk v1) ((I - 1) * D / 64) (own_off (ii - (1 : Int32)) wd) mk v3) kx wd mk 0 (K * D / 64) (own_wdx hK0 (by omega) hD hD2) (own_wb hN hK2) (own_wb2 hK2 hLN2 hD2) A_b E_o Fw Fm Fs) 0 (by decide) (by decide) (Nat.le_of_eq rfl) (by decide) (by decide) (by rw [hml]; rfl) (lenOf own_pd6 rfl) rfl (hb hby at_159) ?_
      rintro T16 _ X16 ⟨rfl, e16⟩
      rw [show own_getf (own_setf (own_setf (fun _ => 0) (I * D / 64) (own_off ii wd) mk v1) ((I - 1) * D / 64) (own_off (ii - (1 : Int32)) wd) mk v3) (K * D / 64) (own_off kx wd) mk = (0 : Int64) from ((own_gs2 (own_offI (own_d1 hI0 hIp (by omega)) (by omega) hD hD2) (own_offI hK0 (by omega) hD hD2) hD2 hmB v3B (own_apart (by omega))).trans ((own_gs2 (own_offI hI0 (by omega) hD hD2) (own_offI hK0 (by omega) hD hD2) hD2 hmB v1B (own_apart (by omega))).trans (own_gs0 (own_offI hK0 (by omega) hD hD2) hD2 hmB)))]
      show own_G p e below Fi T16 (mkF m 162 #[iv x0, iv x1, iv x2, jv x3, .second, jv x4, .second, jv x5, .second, iv ln, iv wd, jv mk, .second, iv ii, jv v1, .second, jv v2, .second, jv v3, .second, rv b1, iv (0 : Int32), iv (1 : Int32), iv kx, .unset] [(.long (0 : Int64))])
      refine own_gs 163 [(.long (0 : Int64)), (.long (0 : Int64))] (fun t' k => XS.lconst X16.here hx rfl (hb hby at_162) k) ?_
      refine own_gs 164 [(.int (lcmpW (0 : Int64) (0 : Int64)))] (fun t' k => XS.lcmp X16.here hx rfl (hb hby at_163) rfl k) ?_
      refine own_gs 167 [] (fun t' k => XS.ifNo X16.here hx rfl (hb hby at_164) rfl ((if0 _ _).trans (teq ((lw_eq (0 : Int64) (0 : Int64)).mpr rfl)).2) k) ?_
      refine own_gs 168 [(.int (1 : Int32))] (fun t' k => XS.iconst X16.here hx rfl (hb hby at_167) k) ?_
      refine own_gs 172 [(.int (1 : Int32))] (fun t' k => XS.goto X16.here hx rfl (pc0 := 168) (pc' := 172) rfl (hb hby at_168) (by decide) (by decide) k) ?_
      refine own_go (mkF m 174 #[iv x0, iv x1, iv x2, jv x3, .second, jv x4, .second, jv x5, .second, iv ln, iv wd, jv mk, .second, iv ii, jv v1, .second, jv v2, .second, jv v3, .second, rv b1, iv (0 : Int32), iv (1 : Int32), iv kx, iv (1 : Int32)] []) (fun t' k => XS.istore X16.here hx rfl (hb hby at_172) rfl rfl k) ?_
      refine own_gs 176 [(.int (0 : Int32))] (fun t' k => XS.iload X16.here hx rfl (hb hby at_174) rfl  k) ?_
      refine own_gs 206 [] (fun t' k => XS.ifYes X16.here hx rfl (pc0 := 176) (pc' := 206) rfl (hb hby at_176) rfl ((if0 _ _).trans (teq (by decide)).1) (by decide) (by decide) k) ?_
      refine own_gs 208 [(.int (1 : Int32))] (fun t' k => XS.iload X16.here hx rfl (hb hby at_206) rfl  k) ?_
      refine own_gs 211 [] (fun t' k => XS.ifNo X16.here hx rfl (hb hby at_208) rfl ((if0 _ _).trans (feq (by decide)).1) k) ?_
      refine own_gs 213 [(.int (1 : Int32))] (fun t' k => XS.iload X16.here hx rfl (hb hby at_211) rfl  k) ?_
      refine own_gs 216 [] (fun t' k => XS.ifNo X16.here hx rfl (hb hby at_213) rfl ((if0 _ _).trans (feq (by decide)).1) k) ?_
      refine own_gs 218 [(.ref b1)] (fun t' k => XS.aload X16.here hx rfl (hb hby at_216) rfl rfl  k) ?_
      refine own_gs 220 [(.int ii), (.ref b1)] (fun t' k => XS.iload X16.here hx rfl (hb hby at_218) rfl  k) ?_
      refine own_gs 221 [(.int (1 : Int32)), (.int ii), (.ref b1)] (fun t' k => XS.iconst X16.here hx rfl (hb hby at_220) k) ?_
      refine own_gs 222 [(.int (ii - (1 : Int32))), (.ref b1)] (fun t' k => XS.isub X16.here hx rfl (hb hby at_221) rfl k) ?_
      refine X16.callV hx hZ (y := (⟨"com/example/quotient/quotient/PackedInts", "get", "(I)J"⟩ : MethodName)) (C := "com/example/quotient/quotient/PackedInts") hown (hw _ (List.mem_of_getElem? (i := 50) rfl)) (hw _ (List.mem_of_getElem? (i := 51) rfl)) (hw _ (List.mem_of_getElem? (i := 53) rfl)) (hw _ (List.mem_of_getElem? (i := 52) rfl)) (hw _ (List.mem_of_getElem? (i := 3) rfl)) (hw _ (List.mem_of_getElem? (i := 54) rfl)) (by decide) e16 E_o [(.int (ii - (1 : Int32)))] [] (own_rmG l Z a0 hw [] T14.heap h0.size hn b1 b hab g_b N (own_setf (own_setf (fun _ => 0) (I * D / 64) (own_off ii wd) mk v1) ((I - 1) * D / 64) (own_off (ii - (1 : Int32)) wd) mk v3) (ii - (1 : Int32)) wd mk 0 ((I - 1) * D / 64) (own_wdx (own_d1 hI0 hIp (by omega)) (by omega) hD hD2) (own_wb hN (by omega : I - 1 < LN)) (own_wb2 (by omega : I - 1 < LN) hLN2 hD2) A_b E_o Fw Fm Fs) 0 (by decide) (by decide) (Nat.le_of_eq rfl) (by decide) (by decide) (by rw [hml]; rfl) (lenOf own_pd6 rfl) rfl (hb hby at_222) ?_
      rintro T17 _ X17 ⟨rfl, e17⟩
      rw [show own_getf (own_setf (own_setf (fun _ => 0) (I * D / 64) (own_off ii wd) mk v1) ((I - 1) * D / 64) (own_off (ii - (1 : Int32)) wd) mk v3) ((I - 1) * D / 64) (own_off (ii - (1 : Int32)) wd) mk = v3 from (own_gs1 (own_offI (own_d1 hI0 hIp (by omega)) (by omega) hD hD2) hD2 hmB v3B)]
      show own_G p e below Fi T17 (mkF m 225 #[iv x0, iv x1, iv x2, jv x3, .second, jv x4, .second, jv x5, .second, iv ln, iv wd, jv mk, .second, iv ii, jv v1, .second, jv v2, .second, jv v3, .second, rv b1, iv (0 : Int32), iv (1 : Int32), iv kx, iv (1 : Int32)] [(.long v3)])
      refine own_gs 227 [(.long v3), (.long v3)] (fun t' k => XS.lload X17.here hx rfl (hb hby at_225) rfl  k) ?_
      refine own_gs 228 [(.int (lcmpW v3 v3))] (fun t' k => XS.lcmp X17.here hx rfl (hb hby at_227) rfl k) ?_
      refine own_gs 231 [] (fun t' k => XS.ifNo X17.here hx rfl (hb hby at_228) rfl ((if0 _ _).trans (teq ((lw_eq v3 v3).mpr rfl)).2) k) ?_
      refine own_gs 232 [(.int (1 : Int32))] (fun t' k => XS.iconst X17.here hx rfl (hb hby at_231) k) ?_
      refine own_gs 236 [(.int (1 : Int32))] (fun t' k => XS.goto X17.here hx rfl (pc0 := 232) (pc' := 236) rfl (hb hby at_232) (by decide) (by decide) k) ?_
      refine own_gs 238 [] (fun t' k => XS.istore X17.here hx rfl (hb hby at_236) rfl rfl k) ?_
      refine own_gs 240 [(.int (1 : Int32))] (fun t' k => XS.iload X17.here hx rfl (hb hby at_238) rfl  k) ?_
      refine X17.retZ (hFW _ _ hS) (by first | exact hk | (rw [e17]; exact hk)) hx hlk hret (hb hby at_240) ?_ (by decide) (by decide)
      exact rfl
    · skip
      refine own_gs 98 [] (fun t' k => XS.ifYes X3.here hx rfl (pc0 := 91) (pc' := 98) rfl (hb hby at_91) rfl ((if0 _ _).trans (flt hc91).2.2.2) (by decide) (by decide) k) ?_
      refine own_gs 99 [(.int (0 : Int32))] (fun t' k => XS.iconst X3.here hx rfl (hb hby at_98) k) ?_
      refine own_go (mkF m 101 #[iv x0, iv x1, iv x2, jv x3, .second, jv x4, .second, jv x5, .second, iv ln, iv wd, jv mk, .second, iv ii, jv v1, .second, jv v2, .second, jv v3, .second, rv b1, iv (0 : Int32), iv (0 : Int32), .unset, .unset] []) (fun t' k => XS.istore X3.here hx rfl (hb hby at_99) rfl rfl k) ?_
      refine own_gs 103 [(.int (0 : Int32))] (fun t' k => XS.iload X3.here hx rfl (hb hby at_101) rfl  k) ?_
      refine own_gs 117 [] (fun t' k => XS.ifYes X3.here hx rfl (pc0 := 103) (pc' := 117) rfl (hb hby at_103) rfl ((if0 _ _).trans (teq (by decide)).1) (by decide) (by decide) k) ?_
      refine own_gs 119 [(.int (0 : Int32))] (fun t' k => XS.iload X3.here hx rfl (hb hby at_117) rfl  k) ?_
      refine own_gs 133 [] (fun t' k => XS.ifYes X3.here hx rfl (pc0 := 119) (pc' := 133) rfl (hb hby at_119) rfl ((if0 _ _).trans (teq (by decide)).1) (by decide) (by decide) k) ?_
      refine own_gs 135 [(.int ii)] (fun t' k => XS.iload X3.here hx rfl (hb hby at_133) rfl  k) ?_
      refine own_gs 136 [(.int (2 : Int32)), (.int ii)] (fun t' k => XS.iconst X3.here hx rfl (hb hby at_135) k) ?_
      refine own_gs 137 [(.int (ii + (2 : Int32)))] (fun t' k => XS.iadd X3.here hx rfl (hb hby at_136) rfl k) ?_
      refine own_gs 139 [(.int ln), (.int (ii + (2 : Int32)))] (fun t' k => XS.iload X3.here hx rfl (hb hby at_137) rfl  k) ?_
      refine own_gs 140 [(.int ((ii + (2 : Int32)) - ((ii + (2 : Int32)) / ln) * ln))] (fun t' k => XS.irem X3.here hx rfl (hb hby at_139) rfl hln0 k) ?_
      refine own_go (mkF m 142 #[iv x0, iv x1, iv x2, jv x3, .second, jv x4, .second, jv x5, .second, iv ln, iv wd, jv mk, .second, iv ii, jv v1, .second, jv v2, .second, jv v3, .second, rv b1, iv (0 : Int32), iv (0 : Int32), iv ((ii + (2 : Int32)) - ((ii + (2 : Int32)) / ln) * ln), .unset] []) (fun t' k => XS.istore X3.here hx rfl (hb hby at_140) rfl rfl k) ?_
      have hK0 := own_rem (own_i2 hI0 (by omega)) hLN (by omega) (by omega) (by omega)
      obtain ⟨K, hK'⟩ : ∃ K, K = (I + 2) % LN := ⟨_, rfl⟩
      have hK2 : K < LN := by rw [hK']; exact Nat.mod_lt _ (by omega)
      rw [← hK'] at hK0
      have hK3 : K ≠ I ∧ K ≠ I + 1 ∧ K + 1 ≠ I := by
        by_cases r : I + 2 < LN
        · rw [Nat.mod_eq_of_lt r] at hK'; omega
        · rw [Nat.mod_eq_sub_mod (by omega), Nat.mod_eq_of_lt (by omega)] at hK'; omega
      generalize ekx : ((ii + (2 : Int32)) - ((ii + (2 : Int32)) / ln) * ln) = kx
      rw [ekx] at hK0
      refine own_gs 144 [(.ref b1)] (fun t' k => XS.aload X3.here hx rfl (hb hby at_142) rfl rfl  k) ?_
      refine own_gs 146 [(.int ii), (.ref b1)] (fun t' k => XS.iload X3.here hx rfl (hb hby at_144) rfl  k) ?_
      refine X3.callV hx hZ (y := (⟨"com/example/quotient/quotient/PackedInts", "get", "(I)J"⟩ : MethodName)) (C := "com/example/quotient/quotient/PackedInts") hown (hw _ (List.mem_of_getElem? (i := 50) rfl)) (hw _ (List.mem_of_getElem? (i := 51) rfl)) (hw _ (List.mem_of_getElem? (i := 53) rfl)) (hw _ (List.mem_of_getElem? (i := 52) rfl)) (hw _ (List.mem_of_getElem? (i := 3) rfl)) (hw _ (List.mem_of_getElem? (i := 54) rfl)) (by decide) rfl E_o [(.int ii)] [] (own_rmG l Z a0 hw [] T3.heap h0.size hn b1 b hab g_b N (own_setf (fun _ => 0) (I * D / 64) (own_off ii wd) mk v1) ii wd mk 0 (I * D / 64) (own_wdx hI0 (by omega) hD hD2) (own_wb hN hI2) (own_wb2 hI2 hLN2 hD2) A_b E_o Fw Fm Fs) 0 (by decide) (by decide) (Nat.le_of_eq rfl) (by decide) (by decide) (by rw [hml]; rfl) (lenOf own_pd6 rfl) rfl (hb hby at_146) ?_
      rintro T18 _ X18 ⟨rfl, e18⟩
      rw [show own_getf (own_setf (fun _ => 0) (I * D / 64) (own_off ii wd) mk v1) (I * D / 64) (own_off ii wd) mk = v1 from (own_gs1 (own_offI hI0 (by omega) hD hD2) hD2 hmB v1B)]
      show own_G p e below Fi T18 (mkF m 149 #[iv x0, iv x1, iv x2, jv x3, .second, jv x4, .second, jv x5, .second, iv ln, iv wd, jv mk, .second, iv ii, jv v1, .second, jv v2, .second, jv v3, .second, rv b1, iv (0 : Int32), iv (0 : Int32), iv kx, .unset] [(.long v1)])
      refine own_gs 151 [(.long v1), (.long v1)] (fun t' k => XS.lload X18.here hx rfl (hb hby at_149) rfl  k) ?_
      refine own_gs 152 [(.int (lcmpW v1 v1))] (fun t' k => XS.lcmp X18.here hx rfl (hb hby at_151) rfl k) ?_
      refine own_gs 155 [] (fun t' k => XS.ifNo X18.here hx rfl (hb hby at_152) rfl ((if0 _ _).trans (teq ((lw_eq v1 v1).mpr rfl)).2) k) ?_
      refine own_gs 157 [(.ref b1)] (fun t' k => XS.aload X18.here hx rfl (hb hby at_155) rfl rfl  k) ?_
      refine own_gs 159 [(.int kx), (.ref b1)] (fun t' k => XS.iload X18.here hx rfl (hb hby at_157) rfl  k) ?_
      refine X18.callV hx hZ (y := (⟨"com/example/quotient/quotient/PackedInts", "get", "(I)J"⟩ : MethodName)) (C := "com/example/quotient/quotient/PackedInts") hown (hw _ (List.mem_of_getElem? (i := 50) rfl)) (hw _ (List.mem_of_getElem? (i := 51) rfl)) (hw _ (List.mem_of_getElem? (i := 53) rfl)) (hw _ (List.mem_of_getElem? (i := 52) rfl)) (hw _ (List.mem_of_getElem? (i := 3) rfl)) (hw _ (List.mem_of_getElem? (i := 54) rfl)) (by decide) e18 E_o [(.int kx)] [] (own_rmG l Z a0 hw [] T3.heap h0.size hn b1 b hab g_b N (own_setf (fun _ => 0) (I * D / 64) (own_off ii wd) mk v1) kx wd mk 0 (K * D / 64) (own_wdx hK0 (by omega) hD hD2) (own_wb hN hK2) (own_wb2 hK2 hLN2 hD2) A_b E_o Fw Fm Fs) 0 (by decide) (by decide) (Nat.le_of_eq rfl) (by decide) (by decide) (by rw [hml]; rfl) (lenOf own_pd6 rfl) rfl (hb hby at_159) ?_
      rintro T19 _ X19 ⟨rfl, e19⟩
      rw [show own_getf (own_setf (fun _ => 0) (I * D / 64) (own_off ii wd) mk v1) (K * D / 64) (own_off kx wd) mk = (0 : Int64) from ((own_gs2 (own_offI hI0 (by omega) hD hD2) (own_offI hK0 (by omega) hD hD2) hD2 hmB v1B (own_apart (by omega))).trans (own_gs0 (own_offI hK0 (by omega) hD hD2) hD2 hmB))]
      show own_G p e below Fi T19 (mkF m 162 #[iv x0, iv x1, iv x2, jv x3, .second, jv x4, .second, jv x5, .second, iv ln, iv wd, jv mk, .second, iv ii, jv v1, .second, jv v2, .second, jv v3, .second, rv b1, iv (0 : Int32), iv (0 : Int32), iv kx, .unset] [(.long (0 : Int64))])
      refine own_gs 163 [(.long (0 : Int64)), (.long (0 : Int64))] (fun t' k => XS.lconst X19.here hx rfl (hb hby at_162) k) ?_
      refine own_gs 164 [(.int (lcmpW (0 : Int64) (0 : Int64)))] (fun t' k => XS.lcmp X19.here hx rfl (hb hby at_163) rfl k) ?_
      refine own_gs 167 [] (fun t' k => XS.ifNo X19.here hx rfl (hb hby at_164) rfl ((if0 _ _).trans (teq ((lw_eq (0 : Int64) (0 : Int64)).mpr rfl)).2) k) ?_
      refine own_gs 168 [(.int (1 : Int32))] (fun t' k => XS.iconst X19.here hx rfl (hb hby at_167) k) ?_
      refine own_gs 172 [(.int (1 : Int32))] (fun t' k => XS.goto X19.here hx rfl (pc0 := 168) (pc' := 172) rfl (hb hby at_168) (by decide) (by decide) k) ?_
      refine own_go (mkF m 174 #[iv x0, iv x1, iv x2, jv x3, .second, jv x4, .second, jv x5, .second, iv ln, iv wd, jv mk, .second, iv ii, jv v1, .second, jv v2, .second, jv v3, .second, rv b1, iv (0 : Int32), iv (0 : Int32), iv kx, iv (1 : Int32)] []) (fun t' k => XS.istore X19.here hx rfl (hb hby at_172) rfl rfl k) ?_
      refine own_gs 176 [(.int (0 : Int32))] (fun t' k => XS.iload X19.here hx rfl (hb hby at_174) rfl  k) ?_
      refine own_gs 206 [] (fun t' k => XS.ifYes X19.here hx rfl (pc0 := 176) (pc' := 206) rfl (hb hby at_176) rfl ((if0 _ _).trans (teq (by decide)).1) (by decide) (by decide) k) ?_
      refine own_gs 208 [(.int (0 : Int32))] (fun t' k => XS.iload X19.here hx rfl (hb hby at_206) rfl  k) ?_
      refine own_gs 238 [] (fun t' k => XS.ifYes X19.here hx rfl (pc0 := 208) (pc' := 238) rfl (hb hby at_208) rfl ((if0 _ _).trans (teq (by decide)).1) (by decide) (by decide) k) ?_
      refine own_gs 240 [(.int (1 : Int32))] (fun t' k => XS.iload X19.here hx rfl (hb hby at_238) rfl  k) ?_
      refine X19.retZ (hFW _ _ hS) (by first | exact hk | (rw [e19]; exact hk)) hx hlk hret (hb hby at_240) ?_ (by decide) (by decide)
      exact rfl

set_option maxRecDepth 65536 in
set_option maxHeartbeats 40000000 in
theorem comes_1 {Post : Tables → Env → Array Value → State → Outcome → State → Prop} (hpost : ∀ tb e args s v u, (limb_1_1.after args s (.returned v) u = true ∧ limb_1_2.after args s (.returned v) u = true ∧ True) → ReturnedEndW s (.returned v) u (Jvm.fieldLocs frame_1_writes args s ++ Jvm.arrayLocs frame_1_arrays args s ++ Jvm.staticLocs frame_1_statics s) 16 1408 → Post tb e args s (.returned v) u) :
    ArmFor flags0 classFile x code maxLocals ret World_1 tables_1 room_1 Calls_1 rest_1 Pre_1 Post := by
  intro l hfl _ _ p e ha hc hk s m args below hf hA hF happ hP
  obtain ⟨hcalls, hrest, hpre⟩ := hP
  obtain ⟨-, -, -, hnamed, -, -, -, hat⟩ := (Spec.applies_iff hf).mp happ
  obtain ⟨hg, hn⟩ := and_e (Cond.before_iff.mp (show (Jvm.Cond.and given_1 narrow_1).before args s = true from hpre))
  obtain ⟨g1, g2⟩ := and_e hg
  obtain ⟨g3, g4⟩ := and_e g2
  obtain ⟨g5, g6⟩ := and_e g4
  obtain ⟨g7, g8⟩ := and_e g6
  obtain ⟨g9, g10⟩ := and_e g8
  obtain ⟨g11, g12⟩ := and_e g10
  obtain ⟨w0, w1, w2, w3, w4, w5, rfl⟩ : ∃ w0 w1 w2 w3 w4 w5 : Value, args = #[w0, w1, w2, w3, w4, w5] := by
    have hs : args.size = 6 := by simpa [Cond.value, given_1] using g1
    obtain ⟨L⟩ := args
    match L, hs with
    | [w0, w1, w2, w3, w4, w5], _ => exact ⟨w0, w1, w2, w3, w4, w5, rfl⟩
  have hw := fun d (hd : d ∈ tables_1) => atoms_spec (ws := Jvm.Cond.code x code maxLocals ret :: tables_1) hat d (List.mem_cons_of_mem _ hd)
  obtain ⟨i0, ei0⟩ := is_v g3
  obtain rfl : w0 = (.int i0) := Option.some.inj ei0
  obtain ⟨i1, ei1⟩ := is_v g5
  obtain rfl : w1 = (.int i1) := Option.some.inj ei1
  obtain ⟨i2, ei2⟩ := is_v g7
  obtain rfl : w2 = (.int i2) := Option.some.inj ei2
  obtain ⟨i3, ei3⟩ := isL_v g9
  obtain rfl : w3 = (.long i3) := Option.some.inj ei3
  obtain ⟨i4, ei4⟩ := isL_v g11
  obtain rfl : w4 = (.long i4) := Option.some.inj ei4
  obtain ⟨i5, ei5⟩ := isL_v g12
  obtain rfl : w5 = (.long i5) := Option.some.inj ei5
  obtain ⟨n, o, h1, h2, h3, _, L, rfl, ⟨N, rfl⟩, hq⟩ := own_rm0 l s _ hw tables_1 s.heap i0 i1 i2 i3 i4 i5  p e ha hc hk s m _ below hf ((Spec.applies_iff_loose hf).mp happ).1 ⟨rfl, State.Warmed39.refl s, rfl⟩ trivial
  refine ⟨n, _, h1, h2, h3, hpost _ _ _ _ _ _ ⟨Cond.after_iff.mpr rfl, Cond.after_iff.mpr (eq_i res_at (Term.int_eval (1)) rfl), trivial⟩ ⟨hq.1, hq.2.1, hq.2.2.1, (hq.2.2.2.sift fun y hy => Or.inr (N y hy)).mono (by decide) (by decide)⟩⟩
theorem main_1_1 : Claimed_1_1 := comes_1 fun _ _ _ _ _ _ h hF => ⟨h.1, hF⟩
theorem main_1_2 : Claimed_1_2 := comes_1 fun _ _ _ _ _ _ h hF => ⟨h.2.1, hF⟩
end Jvm.Pilot.@@N@@
namespace Jvm.Pilot.@@N@@
open Jvm Jvm.ClassFile Sem Op Lib Jvm.Free Jvm.Stand Jvm.Pilot.@@N@@.Jvm.D
/-! MADE BY PROGRAM (witnessworld.py) out of the Statement's table words and the real class files: 17 classes; the members and pool entries that the words name. The judged class is class 1, her method 1. -/
namespace start1
open Jvm.ClassFile
def u (s : String) : CpInfo := .utf8 (stringToUtf16 s)
/-- a pool by its gaps: so many unusable entries, then the entry; so many at the end -/
def gap : Nat → List CpInfo → List CpInfo
  | 0, r => r
  | n + 1, r => .unusable :: gap n r
def poolList (es : List (Nat × CpInfo)) (last : Nat) : List CpInfo := es.foldr (fun e r => gap e.1 (e.2 :: r)) (gap last [])
def pool (es : List (Nat × CpInfo)) (last : Nat) : Array CpInfo := ⟨poolList es last⟩
def fileOf (pool : Array CpInfo) (this : Nat) (attrs : Array Attribute := #[]) (ms : Array MethodInfo := #[]) (fl : Nat := 33) (sup : Nat := 0) (ifs : Array Nat := #[]) (fds : Array FieldInfo := #[]) : ClassFile where
  minorVersion := 0
  majorVersion := 65
  constantPool := pool
  accessFlags := fl
  thisClass := this
  superClass := sup
  interfaces := ifs
  fields := fds
  methods := ms
  attributes := attrs
def plain (name : String) (sup : Option ClassId) : Class where
  name := name
  kind := .ordinary
  loader := none
  accessFlags := 33
  super := sup
  interfaces := #[]
  cf := none
  fields := #[]
  methods := #[]
  instanceTypes := #[]
  staticTypes := #[]
  resolved := #[]
  callSites := []
  init := .initialized
  statics := none
  mirror := none

def pool0 : Array CpInfo := pool [(5, u "<init>"), (0, u "()V"), (1, .class_ 10), (1, u "java/lang/Object")] 113

def k0c0 : Code := { maxStack := 0, maxLocals := 1, code := object_method_1_code, exceptionTable := #[], attributes := #[] }
def k0m0 : Method := { name := "<init>", desc := "()V", sig := { parameters := [], returnType := none }, accessFlags := 1, code := some k0c0 }
/-- java/lang/Object -/
def k0 : Class := { plain "java/lang/Object" none with
  accessFlags := 33
  interfaces := #[]
  cf := some (fileOf pool0 8 #[] #[{ accessFlags := 1, nameIndex := 5, descriptorIndex := 6, attributes := #[] }] 33 0 #[] #[])
  fields := #[]
  methods := #[k0m0]
  instanceTypes := #[]
  staticTypes := #[]
  resolved := Array.replicate 124 none
  statics := none }

def pool1 : Array CpInfo := pool [(2, .class_ 4), (1, u "java/lang/Object"), (0, u "<init>"), (0, u "()V"), (0, .integer 2147483647), (0, .class_ 9), (0, u "com/example/quotient/quotient/PackedInts"), (0, .methodref 8 11), (0, .nameAndType 5 12), (0, u "(II)V"), (0, .methodref 8 14), (0, .nameAndType 15 16), (0, u "set"), (0, u "(IJ)V"), (0, .methodref 8 18), (0, .nameAndType 19 20), (0, u "get"), (0, u "(I)J"), (0, .class_ 22), (0, u "com/example/quotient/quotient/PackedIntsGetPinLaw"), (2, u "law"), (0, u "(IIIJJJ)Z")] 3

def k1m0 : Method := { name := "<init>", desc := "()V", sig := { parameters := [], returnType := none }, accessFlags := 1, code := none }
def k1c1 : Code := { maxStack := 4, maxLocals := 25, code := code, exceptionTable := #[], attributes := #[] }
def k1m1 : Method := { name := "law", desc := "(IIIJJJ)Z", sig := { parameters := [.int, .int, .int, .long, .long, .long], returnType := some .boolean }, accessFlags := 9, code := some k1c1 }
/-- com/example/quotient/quotient/PackedIntsGetPinLaw -/
def k1 : Class := { plain "com/example/quotient/quotient/PackedIntsGetPinLaw" (some 0) with
  accessFlags := 49
  interfaces := #[]
  cf := some (fileOf pool1 21 #[] #[{ accessFlags := 1, nameIndex := 5, descriptorIndex := 6, attributes := #[] }, { accessFlags := 9, nameIndex := 25, descriptorIndex := 26, attributes := #[] }] 49 2 #[] #[])
  fields := #[]
  methods := #[k1m0, k1m1]
  instanceTypes := #[]
  staticTypes := #[]
  resolved := Array.replicate 30 none
  statics := none }

def pool2 : Array CpInfo := pool [(1, .methodref 2 3), (0, .class_ 4), (0, .nameAndType 5 6), (0, u "java/lang/Object"), (0, u "<init>"), (0, u "()V"), (0, .fieldref 8 9), (0, .class_ 10), (0, .nameAndType 11 12), (0, u "com/example/quotient/quotient/PackedInts"), (0, u "length"), (0, u "I"), (0, .methodref 8 14), (0, .nameAndType 15 16), (0, u "setWidth"), (0, u "(I)V"), (0, .methodref 8 18), (0, .nameAndType 19 20), (0, u "newWords"), (0, u "(II)[J"), (0, .fieldref 8 22), (0, .nameAndType 23 24), (0, u "words"), (0, u "[J"), (13, .fieldref 8 39), (0, .nameAndType 40 12), (0, u "width"), (0, .fieldref 8 42), (0, .nameAndType 43 44), (0, u "mask"), (0, u "J"), (0, .methodref 8 46), (0, .nameAndType 47 48), (0, u "wordsFor"), (0, u "(II)I"), (0, .long 64), (1, .long 2), (1, .string 54), (0, u "longs"), (0, .methodref 56 57), (0, .class_ 58), (0, .nameAndType 59 60), (0, u "com/example/quotient/quotient/IntArray"), (0, u "javaArrayLength"), (0, u "(JLjava/lang/String;)I"), (6, .long 18446744073709551615), (26, u "(II)V"), (2, u "get"), (0, u "(I)J"), (2, u "set"), (0, u "(IJ)V"), (0, u "MAX_WIDTH")] 13

def k2c0 : Code := { maxStack := 3, maxLocals := 3, code := prog_140_method_1_code, exceptionTable := #[], attributes := #[] }
def k2m0 : Method := { name := "<init>", desc := "(II)V", sig := { parameters := [.int, .int], returnType := none }, accessFlags := 0, code := some k2c0 }
def k2c1 : Code := { maxStack := 5, maxLocals := 2, code := prog_140_method_3_code, exceptionTable := #[], attributes := #[] }
def k2m1 : Method := { name := "setWidth", desc := "(I)V", sig := { parameters := [.int], returnType := none }, accessFlags := 2, code := some k2c1 }
def k2c2 : Code := { maxStack := 2, maxLocals := 2, code := prog_140_method_4_code, exceptionTable := #[], attributes := #[] }
def k2m2 : Method := { name := "newWords", desc := "(II)[J", sig := { parameters := [.int, .int], returnType := some (.array .long) }, accessFlags := 10, code := some k2c2 }
def k2c3 : Code := { maxStack := 4, maxLocals := 2, code := prog_140_method_5_code, exceptionTable := #[], attributes := #[] }
def k2m3 : Method := { name := "wordsFor", desc := "(II)I", sig := { parameters := [.int, .int], returnType := some .int }, accessFlags := 10, code := some k2c3 }
def k2c4 : Code := { maxStack := 6, maxLocals := 6, code := prog_140_method_8_code, exceptionTable := #[], attributes := #[] }
def k2m4 : Method := { name := "get", desc := "(I)J", sig := { parameters := [.int], returnType := some .long }, accessFlags := 0, code := some k2c4 }
def k2c5 : Code := { maxStack := 8, maxLocals := 9, code := prog_140_method_9_code, exceptionTable := #[], attributes := #[] }
def k2m5 : Method := { name := "set", desc := "(IJ)V", sig := { parameters := [.int, .long], returnType := none }, accessFlags := 0, code := some k2c5 }
/-- com/example/quotient/quotient/PackedInts -/
def k2 : Class := { plain "com/example/quotient/quotient/PackedInts" (some 0) with
  accessFlags := 48
  interfaces := #[]
  cf := some (fileOf pool2 8 #[] #[{ accessFlags := 0, nameIndex := 5, descriptorIndex := 94, attributes := #[] }, { accessFlags := 2, nameIndex := 15, descriptorIndex := 16, attributes := #[] }, { accessFlags := 10, nameIndex := 19, descriptorIndex := 20, attributes := #[] }, { accessFlags := 10, nameIndex := 47, descriptorIndex := 48, attributes := #[] }, { accessFlags := 0, nameIndex := 97, descriptorIndex := 98, attributes := #[] }, { accessFlags := 0, nameIndex := 101, descriptorIndex := 102, attributes := #[] }] 48 2 #[] #[{ accessFlags := 26, nameIndex := 103, descriptorIndex := 12, attributes := #[] }, { accessFlags := 2, nameIndex := 11, descriptorIndex := 12, attributes := #[] }, { accessFlags := 2, nameIndex := 40, descriptorIndex := 12, attributes := #[] }, { accessFlags := 2, nameIndex := 43, descriptorIndex := 44, attributes := #[] }, { accessFlags := 2, nameIndex := 23, descriptorIndex := 24, attributes := #[] }])
  fields := #[{ name := "MAX_WIDTH", type := .int, accessFlags := 26, slot := 0, constantValue := 0 }, { name := "length", type := .int, accessFlags := 2, slot := 0, constantValue := 0 }, { name := "width", type := .int, accessFlags := 2, slot := 1, constantValue := 0 }, { name := "mask", type := .long, accessFlags := 2, slot := 2, constantValue := 0 }, { name := "words", type := (.array .long), accessFlags := 2, slot := 3, constantValue := 0 }]
  methods := #[k2m0, k2m1, k2m2, k2m3, k2m4, k2m5]
  instanceTypes := #[.int, .int, .long, (.array .long)]
  staticTypes := #[.int]
  resolved := Array.replicate 117 none
  statics := none }

def pool3 : Array CpInfo := pool [(1, .class_ 2), (0, u "java/io/Serializable"), (0, .class_ 4), (0, u "java/lang/Object")] 2

/-- java/io/Serializable -/
def k3 : Class := { plain "java/io/Serializable" (some 0) with
  accessFlags := 1537
  interfaces := #[]
  cf := some (fileOf pool3 1 #[] #[] 1537 3 #[] #[])
  fields := #[]
  methods := #[]
  instanceTypes := #[]
  staticTypes := #[]
  resolved := Array.replicate 7 none
  statics := none }

def pool4 : Array CpInfo := pool [(1, .class_ 2), (0, u "java/lang/Comparable"), (0, .class_ 4), (0, u "java/lang/Object")] 7

/-- java/lang/Comparable -/
def k4 : Class := { plain "java/lang/Comparable" (some 0) with
  accessFlags := 1537
  interfaces := #[]
  cf := some (fileOf pool4 1 #[] #[] 1537 3 #[] #[])
  fields := #[]
  methods := #[]
  instanceTypes := #[]
  staticTypes := #[]
  resolved := Array.replicate 12 none
  statics := none }

def pool5 : Array CpInfo := pool [(2, .class_ 4), (1, u "java/lang/CharSequence"), (42, .class_ 48), (0, u "java/lang/CharSequence$1CodePointIterator"), (10, .class_ 60), (0, u "java/lang/CharSequence$1CharIterator"), (5, .class_ 67), (0, u "java/lang/Object")] 63

/-- java/lang/CharSequence -/
def k5 : Class := { plain "java/lang/CharSequence" (some 0) with
  accessFlags := 1537
  interfaces := #[]
  cf := some (fileOf pool5 2 #[.nestMembers #[47, 59]] #[] 1537 66 #[] #[])
  fields := #[]
  methods := #[]
  instanceTypes := #[]
  staticTypes := #[]
  resolved := Array.replicate 131 none
  statics := none }

def pool6 : Array CpInfo := pool [(1, .class_ 2), (0, u "java/lang/constant/Constable"), (0, .class_ 4), (0, u "java/lang/Object")] 6

/-- java/lang/constant/Constable -/
def k6 : Class := { plain "java/lang/constant/Constable" (some 0) with
  accessFlags := 1537
  interfaces := #[]
  cf := some (fileOf pool6 1 #[] #[] 1537 3 #[] #[])
  fields := #[]
  methods := #[]
  instanceTypes := #[]
  staticTypes := #[]
  resolved := Array.replicate 11 none
  statics := none }

def pool7 : Array CpInfo := pool [(1, .class_ 2), (0, u "java/lang/constant/ConstantDesc"), (0, .class_ 4), (0, u "java/lang/Object")] 32

/-- java/lang/constant/ConstantDesc -/
def k7 : Class := { plain "java/lang/constant/ConstantDesc" (some 0) with
  accessFlags := 1537
  interfaces := #[]
  cf := some (fileOf pool7 1 #[] #[] 1537 3 #[] #[])
  fields := #[]
  methods := #[]
  instanceTypes := #[]
  staticTypes := #[]
  resolved := Array.replicate 37 none
  statics := none }

def pool8 : Array CpInfo := pool [(2, .class_ 4), (1, u "java/lang/Object"), (0, u "<init>"), (0, u "()V"), (3, .class_ 12), (1, u "java/lang/String"), (0, u "value"), (0, u "[B"), (2, u "coder"), (0, u "B"), (2, u "hash"), (0, u "I"), (2, u "hashIsZero"), (0, u "Z"), (13, u "COMPACT_STRINGS"), (534, .class_ 576), (0, u "java/lang/CharSequence"), (22, u "CASE_INSENSITIVE_ORDER"), (0, u "Ljava/util/Comparator;"), (500, u "serialPersistentFields"), (0, u "[Ljava/io/ObjectStreamField;"), (0, .class_ 1104), (0, u "java/lang/String$CaseInsensitiveComparator"), (1, .class_ 1107), (0, u "java/io/Serializable"), (0, .class_ 1109), (0, u "java/lang/Comparable"), (0, .class_ 1111), (0, u "java/lang/constant/Constable"), (0, .class_ 1113), (0, u "java/lang/constant/ConstantDesc"), (2, u "serialVersionUID"), (0, u "J"), (3, u "REPL"), (0, u "C"), (2, u "LATIN1"), (1, u "UTF16")] 323

def k8m0 : Method := { name := "<init>", desc := "()V", sig := { parameters := [], returnType := none }, accessFlags := 1, code := none }
/-- java/lang/String -/
def k8 : Class := { plain "java/lang/String" (some 0) with
  accessFlags := 49
  interfaces := #[3, 4, 5, 6, 7]
  cf := some (fileOf pool8 10 #[.nestMembers #[1103]] #[{ accessFlags := 1, nameIndex := 5, descriptorIndex := 6, attributes := #[] }] 49 2 #[1106, 1108, 575, 1110, 1112] #[{ accessFlags := 18, nameIndex := 13, descriptorIndex := 14, attributes := #[] }, { accessFlags := 18, nameIndex := 17, descriptorIndex := 18, attributes := #[] }, { accessFlags := 2, nameIndex := 21, descriptorIndex := 22, attributes := #[] }, { accessFlags := 2, nameIndex := 25, descriptorIndex := 26, attributes := #[] }, { accessFlags := 26, nameIndex := 1116, descriptorIndex := 1117, attributes := #[] }, { accessFlags := 24, nameIndex := 40, descriptorIndex := 26, attributes := #[] }, { accessFlags := 26, nameIndex := 1101, descriptorIndex := 1102, attributes := #[] }, { accessFlags := 26, nameIndex := 1121, descriptorIndex := 1122, attributes := #[] }, { accessFlags := 25, nameIndex := 599, descriptorIndex := 600, attributes := #[] }, { accessFlags := 24, nameIndex := 1125, descriptorIndex := 18, attributes := #[] }, { accessFlags := 24, nameIndex := 1127, descriptorIndex := 18, attributes := #[] }])
  fields := #[{ name := "value", type := (.array .byte), accessFlags := 18, slot := 0, constantValue := 0 }, { name := "coder", type := .byte, accessFlags := 18, slot := 1, constantValue := 0 }, { name := "hash", type := .int, accessFlags := 2, slot := 2, constantValue := 0 }, { name := "hashIsZero", type := .boolean, accessFlags := 2, slot := 3, constantValue := 0 }, { name := "serialVersionUID", type := .long, accessFlags := 26, slot := 0, constantValue := 0 }, { name := "COMPACT_STRINGS", type := .boolean, accessFlags := 24, slot := 1, constantValue := 0 }, { name := "serialPersistentFields", type := (.array (.object "java/io/ObjectStreamField")), accessFlags := 26, slot := 2, constantValue := 0 }, { name := "REPL", type := .char, accessFlags := 26, slot := 3, constantValue := 0 }, { name := "CASE_INSENSITIVE_ORDER", type := (.object "java/util/Comparator"), accessFlags := 25, slot := 4, constantValue := 0 }, { name := "LATIN1", type := .byte, accessFlags := 24, slot := 5, constantValue := 0 }, { name := "UTF16", type := .byte, accessFlags := 24, slot := 6, constantValue := 0 }]
  methods := #[k8m0]
  instanceTypes := #[(.array .byte), .byte, .int, .boolean]
  staticTypes := #[.long, .boolean, (.array (.object "java/io/ObjectStreamField")), .char, (.object "java/util/Comparator"), .byte, .byte]
  resolved := Array.replicate 1451 none
  statics := none }

def pool9 : Array CpInfo := pool [(3, .class_ 4), (0, u "com/example/quotient/quotient/IntArray"), (20, .class_ 27), (1, u "com/example/quotient/quotient/IntArray$InParts"), (3, .class_ 33), (1, u "java/lang/Object"), (3, u "first"), (0, u "[I"), (2, u "rest"), (2, u "longestPart"), (0, u "I"), (29, u "javaArrayLength"), (0, u "(JLjava/lang/String;)I"), (0, .long 2147483647), (46, .class_ 125), (0, u "com/example/quotient/quotient/IntArray$1"), (10, u "LONGEST_JAVA_ARRAY"), (1, u "MAX_LENGTH"), (0, u "J")] 42

def k9c0 : Code := { maxStack := 5, maxLocals := 3, code := prog_85_method_9_code, exceptionTable := #[], attributes := #[] }
def k9m0 : Method := { name := "javaArrayLength", desc := "(JLjava/lang/String;)I", sig := { parameters := [.long, (.object "java/lang/String")], returnType := some .int }, accessFlags := 8, code := some k9c0 }
/-- com/example/quotient/quotient/IntArray -/
def k9 : Class := { plain "com/example/quotient/quotient/IntArray" (some 0) with
  accessFlags := 32
  interfaces := #[]
  cf := some (fileOf pool9 3 #[.nestMembers #[25, 124]] #[{ accessFlags := 8, nameIndex := 75, descriptorIndex := 76, attributes := #[] }] 32 31 #[] #[{ accessFlags := 24, nameIndex := 136, descriptorIndex := 45, attributes := #[] }, { accessFlags := 24, nameIndex := 138, descriptorIndex := 139, attributes := #[] }, { accessFlags := 16, nameIndex := 37, descriptorIndex := 38, attributes := #[] }, { accessFlags := 16, nameIndex := 41, descriptorIndex := 38, attributes := #[] }, { accessFlags := 18, nameIndex := 44, descriptorIndex := 45, attributes := #[] }])
  fields := #[{ name := "LONGEST_JAVA_ARRAY", type := .int, accessFlags := 24, slot := 0, constantValue := 0 }, { name := "MAX_LENGTH", type := .long, accessFlags := 24, slot := 1, constantValue := 0 }, { name := "first", type := (.array .int), accessFlags := 16, slot := 0, constantValue := 0 }, { name := "rest", type := (.array .int), accessFlags := 16, slot := 1, constantValue := 0 }, { name := "longestPart", type := .int, accessFlags := 18, slot := 2, constantValue := 0 }]
  methods := #[k9m0]
  instanceTypes := #[(.array .int), (.array .int), .int]
  staticTypes := #[.int, .long]
  resolved := Array.replicate 182 none
  statics := none }

def pool10 : Array CpInfo := pool [(1, u "java/lang/Cloneable"), (0, .class_ 1), (0, u "java/lang/Object"), (0, .class_ 3)] 3

/-- java/lang/Cloneable -/
def k10 : Class := { plain "java/lang/Cloneable" (some 0) with
  accessFlags := 1537
  interfaces := #[]
  cf := some (fileOf pool10 2 #[] #[] 1537 4 #[] #[])
  fields := #[]
  methods := #[]
  instanceTypes := #[]
  staticTypes := #[]
  resolved := Array.replicate 8 none
  statics := none }

/-- the primitive byte -/
def k11 : Class := { plain "byte" none with kind := .primitive 'B', accessFlags := 0x411 }
/-- [B -/
def k12 : Class := { plain "[B" (some 0) with kind := .array 11 .byte, interfaces := #[10, 3], accessFlags := 1041 }

/-- the primitive int -/
def k13 : Class := { plain "int" none with kind := .primitive 'I', accessFlags := 0x411 }
/-- [I -/
def k14 : Class := { plain "[I" (some 0) with kind := .array 13 .int, interfaces := #[10, 3], accessFlags := 1041 }

/-- the primitive long -/
def k15 : Class := { plain "long" none with kind := .primitive 'J', accessFlags := 0x411 }
/-- [J -/
def k16 : Class := { plain "[J" (some 0) with kind := .array 15 .long, interfaces := #[10, 3], accessFlags := 1041 }

def heap : Heap := #[]
def classes : Array Class := #[k0, k1, k2, k3, k4, k5, k6, k7, k8, k9, k10, k11, k12, k13, k14, k15, k16]
def interned : List (Array UInt16 × Addr) := []
def slotsUsed : Nat := 0
def theMethod : MethodId := ⟨1, 1⟩
def args0 : Array Value := #[.int 5, .int 7, .int 9, .long 3, .long 2, .long 1]
def aboutOver (below : List Frame) : State where
  vm := { classes := classes, interned := interned.toArray }
  heap := heap
  slotsUsed := slotsUsed
  threads := #[{ frames := .invoking theMethod args0 :: below }]
def below0 : List Frame := [.native { method := ⟨0, 0⟩, args := #[] }]
def about1 : State := aboutOver below0
def p0 : Program := .bare "" "" ""
def e0 : Env := launch0.env 0 0 0
theorem w_frames : about1.frames = Frame.invoking theMethod args0 :: below0 := rfl
set_option maxRecDepth 65536 in
theorem w_args : argsFit about1.vm theMethod args0 = true := by decide +kernel
set_option maxRecDepth 65536 in
theorem w_heap : heapFits about1 = true := by decide +kernel
set_option maxRecDepth 65536 in
theorem w_runnable : about1.curStatus? = some .runnable := by decide +kernel
set_option maxRecDepth 65536 in
theorem w_alone : about1.alone = true := by decide +kernel
set_option maxRecDepth 65536 in
theorem w_named : about1.methodNamed? x = some theMethod := by decide +kernel
set_option maxRecDepth 65536 in
theorem w_hears : about1.hears theMethod below0 = true := by decide +kernel
set_option maxRecDepth 65536 in
theorem w_ripe : about1.ripe theMethod args0 below0 = true := by decide +kernel
theorem w_running : about1.status = .running := rfl
set_option maxRecDepth 65536 in
theorem w_room : about1.hasRoom e0.platform room_1 = true :=
  launch0.hasRoom_least _ room_1 (by decide +kernel) (by decide +kernel) (by decide +kernel) (by decide +kernel) (by decide +kernel) (by decide +kernel)
theorem allAtoms_all (ts : List Jvm.Cond) (a : Array Jvm.Value) (st : Jvm.State) : (allAtoms ts).before a st = ts.all (fun c => c.before a st) := by
  induction ts with
  | nil => rfl
  | cons c t ih =>
    show (Jvm.Cond.and c (allAtoms t)).before a st = _
    rw [Jvm.Cond.before_and, ih, List.all_cons]
def words1 : List Jvm.Cond := Jvm.Cond.code x code maxLocals ret :: tables_1
/-- a 'code' word, met by the world's own term for the bytes: nothing is compared byte by byte -/
theorem code_word {y : MethodName} {bytes : ByteArray} {mx : Nat} {rt : Option FieldType} {a : Array Value} {s : State} {m : MethodId} {meth : Method} {c : Code} (h1 : s.methodNamed? y = some m) (h2 : s.vm.method? m = some meth) (h3 : meth.code = some c) (h4 : c.code = bytes)
    (h5 : (c.maxLocals == mx && c.exceptionTable.isEmpty && decide (c.maxStack ≤ mostOperands) && decide (meth.sig.returnType = rt) && !meth.locks && decide (parseMethodDescriptor y.desc = some meth.sig)) = true) : (Jvm.Cond.code y bytes mx rt).before a s = true := by
  simp only [Bool.and_eq_true, beq_iff_eq, Bool.not_eq_true', decide_eq_true_eq] at h5
  obtain ⟨⟨⟨⟨⟨g1, g2⟩, g3⟩, g4⟩, g5⟩, g6⟩ := h5
  simp [Cond.before, Cond.holds, Cond.value, h1, h2, h3, h4, g1, g2, g3, g4, g5, g6]
def isCode : Jvm.Cond → Bool
  | .code _ _ _ _ => true
  | _ => false
theorem all_split {L : List Jvm.Cond} {P : Jvm.Cond → Bool} (h1 : L.all (fun c => isCode c || P c) = true) (h2 : ∀ c ∈ L.filter isCode, P c = true) : L.all P = true := by
  refine List.all_eq_true.mpr fun c hc => ?_
  have h := List.all_eq_true.mp h1 c hc
  rcases Bool.eq_false_or_eq_true (isCode c) with hi | hi
  · exact h2 c (List.mem_filter.mpr ⟨hc, hi⟩)
  · simpa [hi] using h
set_option maxRecDepth 65536 in
theorem w_c0 : (Jvm.Cond.code x code maxLocals ret).before args0 about1 = true := code_word (m := ⟨1, 1⟩) (meth := k1m1) (c := k1c1) (by decide +kernel) rfl rfl rfl (by decide +kernel)
set_option maxRecDepth 65536 in
theorem w_c1 : (Jvm.Cond.code ({ cls := "com/example/quotient/quotient/PackedInts", name := "<init>", desc := "(II)V" } : Jvm.MethodName) prog_140_method_1_code (3 : Nat) (Option.none : Option Jvm.ClassFile.FieldType)).before args0 about1 = true := code_word (m := ⟨2, 0⟩) (meth := k2m0) (c := k2c0) (by decide +kernel) rfl rfl rfl (by decide +kernel)
set_option maxRecDepth 65536 in
theorem w_c2 : (Jvm.Cond.code ({ cls := "java/lang/Object", name := "<init>", desc := "()V" } : Jvm.MethodName) object_method_1_code (1 : Nat) (Option.none : Option Jvm.ClassFile.FieldType)).before args0 about1 = true := code_word (m := ⟨0, 0⟩) (meth := k0m0) (c := k0c0) (by decide +kernel) rfl rfl rfl (by decide +kernel)
set_option maxRecDepth 65536 in
theorem w_c3 : (Jvm.Cond.code ({ cls := "com/example/quotient/quotient/PackedInts", name := "setWidth", desc := "(I)V" } : Jvm.MethodName) prog_140_method_3_code (2 : Nat) (Option.none : Option Jvm.ClassFile.FieldType)).before args0 about1 = true := code_word (m := ⟨2, 1⟩) (meth := k2m1) (c := k2c1) (by decide +kernel) rfl rfl rfl (by decide +kernel)
set_option maxRecDepth 65536 in
theorem w_c4 : (Jvm.Cond.code ({ cls := "com/example/quotient/quotient/PackedInts", name := "newWords", desc := "(II)[J" } : Jvm.MethodName) prog_140_method_4_code (2 : Nat) (Option.some (Jvm.ClassFile.FieldType.array Jvm.ClassFile.FieldType.long))).before args0 about1 = true := code_word (m := ⟨2, 2⟩) (meth := k2m2) (c := k2c2) (by decide +kernel) rfl rfl rfl (by decide +kernel)
set_option maxRecDepth 65536 in
theorem w_c5 : (Jvm.Cond.code ({ cls := "com/example/quotient/quotient/PackedInts", name := "wordsFor", desc := "(II)I" } : Jvm.MethodName) prog_140_method_5_code (2 : Nat) (Option.some Jvm.ClassFile.FieldType.int)).before args0 about1 = true := code_word (m := ⟨2, 3⟩) (meth := k2m3) (c := k2c3) (by decide +kernel) rfl rfl rfl (by decide +kernel)
set_option maxRecDepth 65536 in
theorem w_c6 : (Jvm.Cond.code ({ cls := "com/example/quotient/quotient/IntArray", name := "javaArrayLength", desc := "(JLjava/lang/String;)I" } : Jvm.MethodName) prog_85_method_9_code (3 : Nat) (Option.some Jvm.ClassFile.FieldType.int)).before args0 about1 = true := code_word (m := ⟨9, 0⟩) (meth := k9m0) (c := k9c0) (by decide +kernel) rfl rfl rfl (by decide +kernel)
set_option maxRecDepth 65536 in
theorem w_c7 : (Jvm.Cond.code ({ cls := "com/example/quotient/quotient/PackedInts", name := "set", desc := "(IJ)V" } : Jvm.MethodName) prog_140_method_9_code (9 : Nat) (Option.none : Option Jvm.ClassFile.FieldType)).before args0 about1 = true := code_word (m := ⟨2, 5⟩) (meth := k2m5) (c := k2c5) (by decide +kernel) rfl rfl rfl (by decide +kernel)
set_option maxRecDepth 65536 in
theorem w_c8 : (Jvm.Cond.code ({ cls := "com/example/quotient/quotient/PackedInts", name := "get", desc := "(I)J" } : Jvm.MethodName) prog_140_method_8_code (6 : Nat) (Option.some Jvm.ClassFile.FieldType.long)).before args0 about1 = true := code_word (m := ⟨2, 4⟩) (meth := k2m4) (c := k2c4) (by decide +kernel) rfl rfl rfl (by decide +kernel)
def codes1 : List Jvm.Cond := [Jvm.Cond.code x code maxLocals ret, Jvm.Cond.code ({ cls := "com/example/quotient/quotient/PackedInts", name := "<init>", desc := "(II)V" } : Jvm.MethodName) prog_140_method_1_code (3 : Nat) (Option.none : Option Jvm.ClassFile.FieldType), Jvm.Cond.code ({ cls := "java/lang/Object", name := "<init>", desc := "()V" } : Jvm.MethodName) object_method_1_code (1 : Nat) (Option.none : Option Jvm.ClassFile.FieldType), Jvm.Cond.code ({ cls := "com/example/quotient/quotient/PackedInts", name := "setWidth", desc := "(I)V" } : Jvm.MethodName) prog_140_method_3_code (2 : Nat) (Option.none : Option Jvm.ClassFile.FieldType), Jvm.Cond.code ({ cls := "com/example/quotient/quotient/PackedInts", name := "newWords", desc := "(II)[J" } : Jvm.MethodName) prog_140_method_4_code (2 : Nat) (Option.some (Jvm.ClassFile.FieldType.array Jvm.ClassFile.FieldType.long)), Jvm.Cond.code ({ cls := "com/example/quotient/quotient/PackedInts", name := "wordsFor", desc := "(II)I" } : Jvm.MethodName) prog_140_method_5_code (2 : Nat) (Option.some Jvm.ClassFile.FieldType.int), Jvm.Cond.code ({ cls := "com/example/quotient/quotient/IntArray", name := "javaArrayLength", desc := "(JLjava/lang/String;)I" } : Jvm.MethodName) prog_85_method_9_code (3 : Nat) (Option.some Jvm.ClassFile.FieldType.int), Jvm.Cond.code ({ cls := "com/example/quotient/quotient/PackedInts", name := "set", desc := "(IJ)V" } : Jvm.MethodName) prog_140_method_9_code (9 : Nat) (Option.none : Option Jvm.ClassFile.FieldType), Jvm.Cond.code ({ cls := "com/example/quotient/quotient/PackedInts", name := "get", desc := "(I)J" } : Jvm.MethodName) prog_140_method_8_code (6 : Nat) (Option.some Jvm.ClassFile.FieldType.long)]
set_option maxRecDepth 65536 in
theorem codes_eq : words1.filter isCode = codes1 := rfl
theorem w_codes : ∀ c ∈ words1.filter isCode, c.before args0 about1 = true := by
  rw [codes_eq]
  intro c hc
  simp only [codes1, List.mem_cons, List.not_mem_nil, or_false] at hc
  rcases hc with rfl | rfl | rfl | rfl | rfl | rfl | rfl | rfl | rfl
  · exact w_c0
  · exact w_c1
  · exact w_c2
  · exact w_c3
  · exact w_c4
  · exact w_c5
  · exact w_c6
  · exact w_c7
  · exact w_c8
set_option maxRecDepth 65536 in
theorem w_t1 : (words1.take 24).all (fun c => isCode c || c.before args0 about1) = true := by decide +kernel
set_option maxRecDepth 65536 in
theorem w_t2 : ((words1.drop 24).take 24).all (fun c => isCode c || c.before args0 about1) = true := by decide +kernel
set_option maxRecDepth 65536 in
theorem w_t3 : ((words1.drop 24).drop 24).all (fun c => isCode c || c.before args0 about1) = true := by decide +kernel
theorem w_tables : (allAtoms (Jvm.Cond.code x code maxLocals ret :: tables_1)).before args0 about1 = true := by
  rw [allAtoms_all]
  show words1.all (fun c => c.before args0 about1) = true
  refine all_split ?_ w_codes
  rw [← List.take_append_drop 24 words1, List.all_append, w_t1, ← List.take_append_drop 24 (words1.drop 24), List.all_append, w_t2, w_t3]
  rfl
set_option maxRecDepth 65536 in
theorem w_case : (Jvm.Cond.and given_1 narrow_1).before args0 about1 = true := by decide +kernel
theorem w_applies : (headSpec (Jvm.Cond.code x code maxLocals ret :: tables_1) room_1).applies x e0.platform about1 = true :=
  (Spec.applies_iff w_frames).mpr ⟨w_running, w_runnable, w_alone, w_named, w_hears, w_ripe, w_room, w_tables⟩
theorem atStart : AtStart classFile x code maxLocals ret World_1 tables_1 room_1 Calls_1 rest_1 Pre_1 launch0 p0 e0 about1 theMethod args0 below0 :=
  ⟨lists_1, trivial, launch0.admits_env _ _ _, launch0.least_env, fairChoices_fair.cas, fairChoices_fair.clock, w_frames, w_args, w_heap, w_applies, trivial, trivial, w_case⟩
end start1
theorem witness_1 : WitnessClaimed_1 := ⟨start1.p0, start1.e0, start1.about1, start1.theMethod, start1.args0, start1.below0, start1.atStart⟩
end Jvm.Pilot.@@N@@
