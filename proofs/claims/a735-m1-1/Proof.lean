import JvmDerived
import JvmDerived.Pilot.@@N@@Statement
import JvmDerived.Pilot.@@N@@Code
set_option linter.unusedVariables false
set_option linter.unusedSimpArgs false
@@BLOCK:NumsL.lean.txt@@
@@BLOCK:HandJ.lean.txt@@
@@BLOCK:SymMore.lean.txt@@
namespace Jvm.Pilot.@@N@@
open Jvm Jvm.ClassFile Sem Op Lib Jvm.Free Jvm.Stand Jvm.LawKit Jvm.RoadKit Bundle Jvm.Pilot.@@N@@.Jvm.D
/-- a long's slot, written short -/
abbrev jv (x : Int64) : Slot := .val (.long x)
section OwnKit
variable {p : Program} {l : Launch} {e : Env} {R : Room} {s : State} {m : MethodId} {args : Array Value} {below : List Frame} {meth : Method} {c : Code} {T T' : State} {locs : List Loc} {cells slots : Nat} {Q : Option Value → Heap → List Loc → Prop} {kc ks : Nat} {g : JFrame} {Z : State} {a0 : Array Value} {h : Heap}
/-- what is left to do, from the state T with the top frame g: the run comes to the invocation's end, returns, and the end is as Q says -/
def own_G (p : Program) (e : Env) (below : List Frame) (s : State) (Q : Option Value → Heap → List Loc → Prop) (kc ks : Nat) (T : State) (g : JFrame) : Prop :=
  ∃ t o, Steps p.tables e below (T.setTop g) t ∧ t.status = .running ∧ Ended t below o ∧ ∃ v L, o = .returned v ∧ Q v t.heap L ∧ FrameEnd s o t L kc ks
theorem own_go (g' : JFrame) (k : ∀ t, Steps p.tables e below (T'.setTop g') t → Steps p.tables e below (T.setTop g) t) (h : own_G p e below s Q kc ks T' g') : own_G p e below s Q kc ks T g := by
  obtain ⟨t, o, h1, h2⟩ := h
  exact ⟨t, o, k t h1, h2⟩
/-- a step that leaves the locals alone -/
theorem own_gs {pc : Nat} {Ls : Array Slot} {S : List Value} (pc' : Nat) (S' : List Value) (k : ∀ t, Steps p.tables e below (T.setTop (mkF m pc' Ls S')) t → Steps p.tables e below (T.setTop (mkF m pc Ls S)) t) (h : own_G p e below s Q kc ks T (mkF m pc' Ls S')) : own_G p e below s Q kc ks T (mkF m pc Ls S) := own_go _ k h
theorem own_out (X : Stand p l e R s m args below meth c T locs cells slots) (hlk : meth.locks = false) {v : Option Value} (hv : meth.sig.returnType = none → v = none)
    (st : ∀ fs, (∀ (f : JFrame) (acts : List Action), f.method = m → f.locked = none → f.entered = [] → (doReturn e (T.setTop f) acts v).1 = T.setFrames fs) → Steps p.tables e below (T.setTop g) (T.setFrames fs))
    (hQ : Q v T.heap locs) (h1 : cells ≤ kc) (h2 : slots ≤ ks) : own_G p e below s Q kc ks T g := by
  obtain ⟨fs, hr, hrun, hended, hW, hsame⟩ := X.leave (v := v) hv hlk
  exact ⟨_, _, st fs hr, hrun, hended, v, locs, rfl, hQ, ⟨_, rfl⟩, hW, hsame.mono h1 h2⟩
theorem own_retI (X : Stand p l e R s m args below meth c T locs cells slots) (hx : p.tables.exec = Jvm.exec) (hlk : meth.locks = false) (hret : meth.sig.returnType = some .int) {pc : Nat} {Ls : Array Slot} {z : Int32} {rest : List Value} (hd : decode c.code pc = .ok (.ireturn, 1))
    (hQ : Q (some (.int z)) T.heap locs) (h1 : cells ≤ kc) (h2 : slots ≤ ks) : own_G p e below s Q kc ks T (mkF m pc Ls (.int z :: rest)) := by
  refine own_out X hlk (v := some (.int z)) (fun h => by rw [hret] at h; cases h) (fun fs hl => ?_) hQ h1 h2
  have hm' : T.vm.method? m = some meth := X.method'
  have hn : narrow .int (.int z) = .int z := rfl
  show Steps p.tables e below (T.setTop { method := m, pc := pc, locals := Ls, stack := _ :: rest, locked := none }) _
  jvm_step X.here [X.here.top, hx, hd, hm', hret, hn]
  first | (intro acts; rw [hl _ acts rfl rfl rfl]) | rw [hl _ _ rfl rfl rfl]
  exact Steps.refl _
theorem own_retZ (X : Stand p l e R s m args below meth c T locs cells slots) (hx : p.tables.exec = Jvm.exec) (hlk : meth.locks = false) (hret : meth.sig.returnType = some .boolean) {pc : Nat} {Ls : Array Slot} {z : Int32} {rest : List Value} (hd : decode c.code pc = .ok (.ireturn, 1))
    (hQ : Q (some (.int (z &&& 1))) T.heap locs) (h1 : cells ≤ kc) (h2 : slots ≤ ks) : own_G p e below s Q kc ks T (mkF m pc Ls (.int z :: rest)) :=
  own_out X hlk (v := some (.int (z &&& 1))) (fun h => by rw [hret] at h; cases h) (fun fs hl => retN X hx (t := .boolean) hret (by simp) hd hl) hQ h1 h2
theorem own_retJ (X : Stand p l e R s m args below meth c T locs cells slots) (hx : p.tables.exec = Jvm.exec) (hlk : meth.locks = false) (hret : meth.sig.returnType = some .long) {pc : Nat} {Ls : Array Slot} {z : Int64} (hd : decode c.code pc = .ok (.lreturn, 1))
    (hQ : Q (some (.long z)) T.heap locs) (h1 : cells ≤ kc) (h2 : slots ≤ ks) : own_G p e below s Q kc ks T (mkF m pc Ls [.long z]) :=
  own_out X hlk (v := some (.long z)) (fun h => by rw [hret] at h; cases h) (fun fs hl => X.lreturnOut hx hret hd hl) hQ h1 h2
theorem own_retA (X : Stand p l e R s m args below meth c T locs cells slots) (hx : p.tables.exec = Jvm.exec) (hlk : meth.locks = false) {t : FieldType} (hret : meth.sig.returnType = some t) (ht : t.isReference = true) {pc : Nat} {Ls : Array Slot} {z : Value} (hz : z.isRef = true) (hd : decode c.code pc = .ok (.areturn, 1))
    (hQ : Q (some z) T.heap locs) (h1 : cells ≤ kc) (h2 : slots ≤ ks) : own_G p e below s Q kc ks T (mkF m pc Ls [z]) :=
  own_out X hlk (v := some z) (fun h => by rw [hret] at h; cases h) (fun fs hl => X.areturnOut hx hz hret ht hd hl) hQ h1 h2
theorem own_retV (X : Stand p l e R s m args below meth c T locs cells slots) (hx : p.tables.exec = Jvm.exec) (hlk : meth.locks = false) (hret : meth.sig.returnType = none) {pc : Nat} {Ls : Array Slot} (hd : decode c.code pc = .ok (.return_, 1))
    (hQ : Q none T.heap locs) (h1 : cells ≤ kc) (h2 : slots ≤ ks) : own_G p e below s Q kc ks T (mkF m pc Ls []) :=
  own_out X hlk (v := none) (fun _ => rfl) (fun fs hl => X.returnOut hx hret hd hl) hQ h1 h2
/-- a method's contract at one heap and one row of arguments -/
def own_C (l : Launch) (Z : State) (y : MethodName) (bytes : ByteArray) (mx : Nat) (ret : Option FieldType) (ws : List Jvm.Cond) (rm : Room) (as : Array Value) (h0 : Heap) (Q : Option Value → Heap → List Loc → Prop) : Prop :=
  MetFree l y (head1 (Jvm.Cond.code y bytes mx ret :: ws) rm) (fun a U => a = as ∧ Z.Warmed39 U.vm ∧ U.heap = h0) (fun _ _ _ _ _ => True) (fun _ U o U' => ∃ v L, o = .returned v ∧ Q v U'.heap L ∧ FrameEnd U o U' L rm.cells rm.slots)
theorem own_met {y : MethodName} {bytes : ByteArray} {mx : Nat} {ret : Option FieldType} {ws : List Jvm.Cond} {rm : Room} {as : Array Value} {h0 : Heap} (hp : plainFor y = true) (L0 : Array Slot) (hef : ∀ m, entryFrame m as mx = mkF m 0 L0 [])
    (body : ∀ (p : Program) (e : Env) (s : State) (m : MethodId) (below : List Frame) (meth : Method) (c : Code) (s₁ : State), p.tables.exec = Jvm.exec → c.code = bytes → c.maxLocals = mx → s.vm.findClass y.cls = some m.cls → meth.sig.returnType = ret → meth.locks = false → Z.Warmed39 s.vm → meth.name = y.name →
      Stand p l e rm s m as below meth c s₁ [] 0 0 → s₁.heap = h0 → own_G p e below s Q rm.cells rm.slots s₁ (mkF m 0 L0 [])) :
    own_C l Z y bytes mx ret ws rm as h0 Q := by
  refine MetFree.of_bodySF hp hisR ?_
  intro p e s m args below meth c s₁ Bd hml0 hP hK
  obtain ⟨rfl, hZ, hh⟩ := hP
  have hown : s.vm.findClass y.cls = some m.cls := findClass_of_methodNamed Bd.named
  have hnm := (name_of_methodNamed Bd.named Bd.method).1
  have X0 : Stand p l e rm s m args below meth c s₁ [] 0 0 := Stand.of_body Bd
  have e0 : s₁.heap = h0 := by rw [← hh, Bd.state]; rfl
  obtain ⟨t, o, h1, h2⟩ := body p e s m below meth c s₁ Bd.exec Bd.bytes hml0 hown Bd.returns Bd.notSynchronized hZ hnm X0 e0
  exact ⟨t, o, castTop (hef m) h1, h2⟩
/-- a static call by the callee's contract -/
theorem own_callS (X : Stand p l e R s m args below meth c T locs cells slots) (hx : p.tables.exec = Jvm.exec) (hZ : Z.Warmed39 s.vm) {own : String} {index : Nat} {y : MethodName} {bytes : ByteArray} {mx : Nat} {ret : Option FieldType} {rm : Room} {Qc : Option Value → Heap → List Loc → Prop}
    (hown : s.vm.findClass own = some m.cls) (w1 : (Jvm.Cond.methodLink own index y).before a0 Z = true) (w2 : (Jvm.Cond.static y).before a0 Z = true) (w3 : (Jvm.Cond.initialized y.cls).before a0 Z = true) (w4 : (Jvm.Cond.code y bytes mx ret).before a0 Z = true) (hy : y.cls ≠ "java/lang/invoke/MethodHandle" ∧ y.cls ≠ "java/lang/invoke/VarHandle")
    (eT : T.heap = h) (argsL rest : List Value) (hM : own_C l Z y bytes mx ret [] rm argsL.toArray h Qc) (W : Nat) (hf : rm.frames + 1 ≤ R.frames) (hlo : W + (mx + 11) + rm.locals ≤ R.locals) (hW : (rest.map fun v => v.category).sum ≤ W) (hc : cells + rm.cells ≤ R.cells) (hs : slots + rm.slots ≤ R.slots)
    {pc : Nat} {Ls : Array Slot} {S : List Value} (hsize : Ls.size = c.maxLocals) (hlen : ∀ sig, parseMethodDescriptor y.desc = some sig → argsL.length = sig.parameters.length) (hS : S = argsL.reverse ++ rest) (hd : decode c.code pc = .ok (.invokestatic index, 3))
    (k : ∀ (T' : State) (v : Option Value) (L : List Loc), Stand p l e R s m args below meth c T' (locs ++ L) (cells + rm.cells) (slots + rm.slots) → Qc v T'.heap L → own_G p e below s Q kc ks T' (mkF m (pc + 3) Ls (v.toList ++ rest))) :
    own_G p e below s Q kc ks T (mkF m pc Ls S) := by
  obtain ⟨v, _, ⟨T', L', k', n'⟩, -, X', ⟨L, hQ, q1, q2, q3⟩, st⟩ := Jvm.LawKit.callS X hx (y := y) hown (mvT hZ w1) (mvT hZ w2) (mvT hZ w3) (mvT hZ w4) hy (backOf (W := W) hM hZ w4 w3 hf hlo) (g := mkF m pc Ls S) rfl hsize (argsL := argsL) (rest := rest) hlen hS (by show 2 * 0 + _ ≤ _; omega) hd (fun _ _ => ⟨rfl, eT, hc, hs⟩)
  dsimp only [Pt.U, Pt.locs, Pt.cells, Pt.slots] at X' q1 q2 q3 st hQ
  subst q1 q2 q3
  exact own_go _ st (k T' v L X' hQ)
/-- what a pure method's end is: this value, the heap as it was, no place written -/
def own_P (r : Value) (h0 : Heap) (v : Option Value) (h : Heap) (L : List Loc) : Prop := v = some r ∧ h = h0 ∧ L = []
/-- a static call of a pure method -/
theorem own_callP (X : Stand p l e R s m args below meth c T locs cells slots) (hx : p.tables.exec = Jvm.exec) (hZ : Z.Warmed39 s.vm) {own : String} {index : Nat} {y : MethodName} {bytes : ByteArray} {mx : Nat} {ret : Option FieldType} {fr lo : Nat} {r : Value}
    (hown : s.vm.findClass own = some m.cls) (w1 : (Jvm.Cond.methodLink own index y).before a0 Z = true) (w2 : (Jvm.Cond.static y).before a0 Z = true) (w3 : (Jvm.Cond.initialized y.cls).before a0 Z = true) (w4 : (Jvm.Cond.code y bytes mx ret).before a0 Z = true) (hy : y.cls ≠ "java/lang/invoke/MethodHandle" ∧ y.cls ≠ "java/lang/invoke/VarHandle")
    (eT : T.heap = h) (argsL rest : List Value) (hM : own_C l Z y bytes mx ret [] { frames := fr, cells := 0, slots := 0, locals := lo } argsL.toArray h (own_P r h)) (W : Nat) (hf : fr + 1 ≤ R.frames) (hlo : W + (mx + 11) + lo ≤ R.locals) (hW : (rest.map fun v => v.category).sum ≤ W) (hc : cells ≤ R.cells) (hs : slots ≤ R.slots)
    {pc : Nat} {Ls : Array Slot} {S : List Value} (hsize : Ls.size = c.maxLocals) (hlen : ∀ sig, parseMethodDescriptor y.desc = some sig → argsL.length = sig.parameters.length) (hS : S = argsL.reverse ++ rest) (hd : decode c.code pc = .ok (.invokestatic index, 3))
    (k : ∀ (T' : State), Stand p l e R s m args below meth c T' locs cells slots → T'.heap = h → own_G p e below s Q kc ks T' (mkF m (pc + 3) Ls (r :: rest))) :
    own_G p e below s Q kc ks T (mkF m pc Ls S) := by
  refine own_callS X hx hZ hown w1 w2 w3 w4 hy eT argsL rest hM W hf hlo hW hc hs hsize hlen hS hd ?_
  rintro T' v L X' ⟨rfl, q2, rfl⟩
  rw [List.append_nil] at X'
  exact k T' X' q2
/-- a constructor's call -/
theorem own_callI (X : Stand p l e R s m args below meth c T locs cells slots) (hx : p.tables.exec = Jvm.exec) (hZ : Z.Warmed39 s.vm) {own : String} {index : Nat} {y : MethodName} {bytes : ByteArray} {mx : Nat} {rm : Room} {Qc : Option Value → Heap → List Loc → Prop} (hy1 : y.name = "<init>")
    (hown : s.vm.findClass own = some m.cls) (w1 : (Jvm.Cond.methodLink own index y).before a0 Z = true) (w2 : (Jvm.Cond.instanceMethod y).before a0 Z = true) (w3 : (Jvm.Cond.initialized y.cls).before a0 Z = true) (w4 : (Jvm.Cond.code y bytes mx none).before a0 Z = true) (hy : y.cls ≠ "java/lang/invoke/MethodHandle" ∧ y.cls ≠ "java/lang/invoke/VarHandle")
    (eT : T.heap = h) (a : Addr) (argsL rest : List Value) (hM : own_C l Z y bytes mx none [] rm (.ref a :: argsL).toArray h Qc) (W : Nat) (hf : rm.frames + 1 ≤ R.frames) (hlo : W + (mx + 11) + rm.locals ≤ R.locals) (hW : (rest.map fun v => v.category).sum ≤ W) (hc : cells + rm.cells ≤ R.cells) (hs : slots + rm.slots ≤ R.slots)
    {pc : Nat} {Ls : Array Slot} {S : List Value} (hsize : Ls.size = c.maxLocals) (hlen : ∀ sig, parseMethodDescriptor y.desc = some sig → argsL.length = sig.parameters.length) (hS : S = argsL.reverse ++ .ref a :: rest) (hd : decode c.code pc = .ok (.invokespecial index, 3))
    (k : ∀ (T' : State) (v : Option Value) (L : List Loc), Stand p l e R s m args below meth c T' (locs ++ L) (cells + rm.cells) (slots + rm.slots) → Qc v T'.heap L → own_G p e below s Q kc ks T' (mkF m (pc + 3) Ls (v.toList ++ rest))) :
    own_G p e below s Q kc ks T (mkF m pc Ls S) := by
  obtain ⟨v, _, ⟨T', L', k', n'⟩, -, X', ⟨L, hQ, q1, q2, q3⟩, st⟩ := X.specialBack hx (y := y) hy1 hown (mvT hZ w1) (mvT hZ w2) (mvT hZ w4) hy (backOf (W := W) hM hZ w4 w3 hf hlo) (g := mkF m pc Ls S) rfl hsize (Steps.refl _) (a := a) (argsL := argsL) (rest := rest) hlen hS (by show 2 * 0 + _ ≤ _; omega) hd (fun _ _ => ⟨rfl, eT, hc, hs⟩)
  dsimp only [Pt.U, Pt.locs, Pt.cells, Pt.slots] at X' q1 q2 q3 st hQ
  subst q1 q2 q3
  exact own_go _ (fun t kt => st.trans kt) (k T' v L X' hQ)
/-- an instance method's call -/
theorem own_callV (X : Stand p l e R s m args below meth c T locs cells slots) (hx : p.tables.exec = Jvm.exec) (hZ : Z.Warmed39 s.vm) {own C : String} {index : Nat} {y : MethodName} {bytes : ByteArray} {mx : Nat} {ret : Option FieldType} {rm : Room} {Qc : Option Value → Heap → List Loc → Prop}
    (hown : s.vm.findClass own = some m.cls) (w1 : (Jvm.Cond.methodLink own index y).before a0 Z = true) (w5 : (Jvm.Cond.declares y).before a0 Z = true) (w6 : (Jvm.Cond.selects C y y).before a0 Z = true) (w2 : (Jvm.Cond.instanceMethod y).before a0 Z = true) (w3 : (Jvm.Cond.initialized y.cls).before a0 Z = true) (w4 : (Jvm.Cond.code y bytes mx ret).before a0 Z = true) (hy : y.cls ≠ "java/lang/invoke/MethodHandle" ∧ y.cls ≠ "java/lang/invoke/VarHandle")
    (eT : T.heap = h) {a : Addr} (E : Exa Z h a C) (argsL rest : List Value) (hM : own_C l Z y bytes mx ret [] rm (.ref a :: argsL).toArray h Qc) (W : Nat) (hf : rm.frames + 1 ≤ R.frames) (hlo : W + (mx + 11) + rm.locals ≤ R.locals) (hW : (rest.map fun v => v.category).sum ≤ W) (hc : cells + rm.cells ≤ R.cells) (hs : slots + rm.slots ≤ R.slots)
    {pc : Nat} {Ls : Array Slot} {S : List Value} (hsize : Ls.size = c.maxLocals) (hlen : ∀ sig, parseMethodDescriptor y.desc = some sig → argsL.length = sig.parameters.length) (hS : S = argsL.reverse ++ .ref a :: rest) (hd : decode c.code pc = .ok (.invokevirtual index, 3))
    (k : ∀ (T' : State) (v : Option Value) (L : List Loc), Stand p l e R s m args below meth c T' (locs ++ L) (cells + rm.cells) (slots + rm.slots) → Qc v T'.heap L → own_G p e below s Q kc ks T' (mkF m (pc + 3) Ls (v.toList ++ rest))) :
    own_G p e below s Q kc ks T (mkF m pc Ls S) := by
  obtain ⟨cq, kq, qa, qb, qc⟩ := isOf hZ eT E
  obtain ⟨v, _, ⟨T', L', k', n'⟩, -, X', ⟨L, hQ, q1, q2, q3⟩, st⟩ := X.virtualBack hx (y := y) (z := y) hown (mvT hZ w1) (mvT hZ w5) (notFace_of_selects (args := #[]) (mvT hZ w6)) (mvT hZ w6) (mvT hZ w2) hy (backOf (W := W) hM hZ w4 w3 hf hlo) qa qc (g := mkF m pc Ls S) rfl hsize (Steps.refl _) (argsL := argsL) (rest := rest) hlen hS (by show 2 * 0 + _ ≤ _; omega) hd (fun _ _ => ⟨rfl, eT, hc, hs⟩)
  dsimp only [Pt.U, Pt.locs, Pt.cells, Pt.slots] at X' q1 q2 q3 st hQ
  subst q1 q2 q3
  exact own_go _ (fun t kt => st.trans kt) (k T' v L X' hQ)
end OwnKit
section OwnHeap
variable {p : Program} {l : Launch} {e : Env} {R : Room} {s : State} {m : MethodId} {args : Array Value} {below : List Frame} {meth : Method} {c : Code} {T T' : State} {locs : List Loc} {cells slots n0 : Nat} {Q : Option Value → Heap → List Loc → Prop} {kc ks : Nat} {g : JFrame} {Z : State} {a0 : Array Value} {h h' h0 : Heap} {a b : Addr} {vs : List Value} {ty : FieldType} {v w : Value} {sl pc : Nat} {Ls : Array Slot} {rest : List Value}
/-- the run stands here, and whatever was written lies in cells at or above n0 -/
def own_S (p : Program) (l : Launch) (e : Env) (R : Room) (s : State) (m : MethodId) (args : Array Value) (below : List Frame) (meth : Method) (c : Code) (n0 : Nat) (T : State) (cells slots : Nat) : Prop := ∃ locs, Stand p l e R s m args below meth c T locs cells slots ∧ Fr n0 locs
theorem own_S.of (X : Stand p l e R s m args below meth c T [] cells slots) (n0 : Nat) : own_S p l e R s m args below meth c n0 T cells slots := ⟨[], X, Fr.nil n0⟩
theorem own_S.here (X : own_S p l e R s m args below meth c n0 T cells slots) : At T m c below := X.elim fun _ q => q.1.here
theorem own_S.ldcInt (X : own_S p l e R s m args below meth c n0 T cells slots) (hx : p.tables.exec = Jvm.exec) {own : String} {index : Nat} {v : Int32} (hown : s.vm.findClass own = some m.cls)
    (hc : (Jvm.Cond.constant own index v).before args s = true) {g : JFrame} (hg : g.method = m) (hd : decode c.code g.pc = .ok (.ldc index, 2)) (t : State) (k : Steps p.tables e below (T.setTop { g with pc := g.pc + 2, stack := .int v :: g.stack }) t) : Steps p.tables e below (T.setTop g) t :=
  X.elim fun _ q => q.1.ldcInt hx hown hc hg hd t k
theorem own_S.ldcwInt (X : own_S p l e R s m args below meth c n0 T cells slots) (hx : p.tables.exec = Jvm.exec) {own : String} {index : Nat} {v : Int32} (hown : s.vm.findClass own = some m.cls)
    (hc : (Jvm.Cond.constant own index v).before args s = true) {g : JFrame} (hg : g.method = m) (hd : decode c.code g.pc = .ok (.ldc_w index, 3)) (t : State) (k : Steps p.tables e below (T.setTop { g with pc := g.pc + 3, stack := .int v :: g.stack }) t) : Steps p.tables e below (T.setTop g) t :=
  X.elim fun _ q => q.1.ldcwInt hx hown hc hg hd t k
theorem own_S.ldc2Long (X : own_S p l e R s m args below meth c n0 T cells slots) (hx : p.tables.exec = Jvm.exec) {own : String} {index : Nat} {v : Int64} (hown : s.vm.findClass own = some m.cls)
    (hc : (Jvm.Cond.constantLong own index v).before args s = true) {g : JFrame} (hg : g.method = m) (hd : decode c.code g.pc = .ok (.ldc2_w index, 3)) (t : State) (k : Steps p.tables e below (T.setTop { g with pc := g.pc + 3, stack := .long v :: g.stack }) t) : Steps p.tables e below (T.setTop g) t :=
  X.elim fun _ q => q.1.ldc2Long hx hown hc hg hd t k
theorem own_S.more (X : own_S p l e R s m args below meth c n0 T cells slots) {cells' slots' : Nat} (h1 : cells ≤ cells') (h2 : slots ≤ slots') : own_S p l e R s m args below meth c n0 T cells' slots' := X.elim fun L q => ⟨L, q.1.more h1 h2, q.2⟩
/-- what a contract with a heap says: the places written are new, and P -/
def own_Q (n0 : Nat) (P : Option Value → Heap → Prop) (v : Option Value) (h : Heap) (L : List Loc) : Prop := Fr n0 L ∧ P v h
theorem own_S.retI {P : Option Value → Heap → Prop} (X : own_S p l e R s m args below meth c n0 T cells slots) (hx : p.tables.exec = Jvm.exec) (hlk : meth.locks = false) (hret : meth.sig.returnType = some .int) {z : Int32} (hd : decode c.code pc = .ok (.ireturn, 1))
    (hQ : P (some (.int z)) T.heap) (h1 : cells ≤ kc) (h2 : slots ≤ ks) : own_G p e below s (own_Q n0 P) kc ks T (mkF m pc Ls (.int z :: rest)) := X.elim fun L q => own_retI q.1 hx hlk hret hd ⟨q.2, hQ⟩ h1 h2
theorem own_S.retZ {P : Option Value → Heap → Prop} (X : own_S p l e R s m args below meth c n0 T cells slots) (hx : p.tables.exec = Jvm.exec) (hlk : meth.locks = false) (hret : meth.sig.returnType = some .boolean) {z : Int32} (hd : decode c.code pc = .ok (.ireturn, 1))
    (hQ : P (some (.int (z &&& 1))) T.heap) (h1 : cells ≤ kc) (h2 : slots ≤ ks) : own_G p e below s (own_Q n0 P) kc ks T (mkF m pc Ls (.int z :: rest)) := X.elim fun L q => own_retZ q.1 hx hlk hret hd ⟨q.2, hQ⟩ h1 h2
theorem own_S.retJ {P : Option Value → Heap → Prop} (X : own_S p l e R s m args below meth c n0 T cells slots) (hx : p.tables.exec = Jvm.exec) (hlk : meth.locks = false) (hret : meth.sig.returnType = some .long) {z : Int64} (hd : decode c.code pc = .ok (.lreturn, 1))
    (hQ : P (some (.long z)) T.heap) (h1 : cells ≤ kc) (h2 : slots ≤ ks) : own_G p e below s (own_Q n0 P) kc ks T (mkF m pc Ls [.long z]) := X.elim fun L q => own_retJ q.1 hx hlk hret hd ⟨q.2, hQ⟩ h1 h2
theorem own_S.retA {P : Option Value → Heap → Prop} (X : own_S p l e R s m args below meth c n0 T cells slots) (hx : p.tables.exec = Jvm.exec) (hlk : meth.locks = false) {t : FieldType} (hret : meth.sig.returnType = some t) (ht : t.isReference = true) {z : Value} (hz : z.isRef = true) (hd : decode c.code pc = .ok (.areturn, 1))
    (hQ : P (some z) T.heap) (h1 : cells ≤ kc) (h2 : slots ≤ ks) : own_G p e below s (own_Q n0 P) kc ks T (mkF m pc Ls [z]) := X.elim fun L q => own_retA q.1 hx hlk hret ht hz hd ⟨q.2, hQ⟩ h1 h2
theorem own_S.retV {P : Option Value → Heap → Prop} (X : own_S p l e R s m args below meth c n0 T cells slots) (hx : p.tables.exec = Jvm.exec) (hlk : meth.locks = false) (hret : meth.sig.returnType = none) (hd : decode c.code pc = .ok (.return_, 1))
    (hQ : P none T.heap) (h1 : cells ≤ kc) (h2 : slots ≤ ks) : own_G p e below s (own_Q n0 P) kc ks T (mkF m pc Ls []) := X.elim fun L q => own_retV q.1 hx hlk hret hd ⟨q.2, hQ⟩ h1 h2
/-- fields -/
theorem own_S.getF (X : own_S p l e R s m args below meth c n0 T cells slots) (hx : p.tables.exec = Jvm.exec) (hZ : Z.Warmed39 s.vm) {own C n d : String} {index : Nat} (hown : s.vm.findClass own = some m.cls) (w1 : (Jvm.Cond.fieldLink own index C n d).before a0 Z = true) (eT : T.heap = h) (F : Fld Z h a C n d v) (hd : decode c.code pc = .ok (.getfield index, 3))
    (k : ∀ T', own_S p l e R s m args below meth c n0 T' cells slots → T'.heap = h → own_G p e below s Q kc ks T' (mkF m (pc + 3) Ls (v :: rest))) : own_G p e below s Q kc ks T (mkF m pc Ls (.ref a :: rest)) := by
  obtain ⟨locs, Y, N⟩ := X
  obtain ⟨T', Y', e', st⟩ := Jvm.RoadKit.getF Y hx hZ hown (host := "") (Or.inl w1) Via.refl eT F (g := mkF m pc Ls (.ref a :: rest)) rfl rfl hd
  exact own_go _ st (k T' ⟨locs, Y', N⟩ e')
theorem own_S.putF (X : own_S p l e R s m args below meth c n0 T cells slots) (hx : p.tables.exec = Jvm.exec) (hZ : Z.Warmed39 s.vm) {own C n d : String} {index kk : Nat} {ty : FieldType} (hown : s.vm.findClass own = some m.cls) (w1 : (Jvm.Cond.fieldLink own index C n d).before a0 Z = true) (eT : T.heap = h) {old : Value} (F : Fld Z h a C n d old) (E : Exa Z h a C) (g0 : n0 ≤ a)
    (L : (Jvm.Cond.lays C C n d).before a0 Z = true ∨ ((Jvm.Cond.laysFinal C C n d).before a0 Z = true ∧ own = C ∧ meth.name = "<init>")) (wi : (Jvm.Cond.instantiable C kk).before a0 Z = true) (hty : parseFieldDescriptor d = some ty) (hn : narrow ty v = v) (hf : fits ty v = true) (hd : decode c.code pc = .ok (.putfield index, 3))
    (k : ∀ T' h', own_S p l e R s m args below meth c n0 T' cells slots → T'.heap = h' → Wr h h' a (Jvm.RoadKit.slotOf Z C n d) v → own_G p e below s Q kc ks T' (mkF m (pc + 3) Ls rest)) : own_G p e below s Q kc ks T (mkF m pc Ls (v :: .ref a :: rest)) := by
  obtain ⟨locs, Y, N⟩ := X
  obtain ⟨T', h', Y', e', W, st⟩ := Jvm.RoadKit.putF Y hx hZ hown (host := "") (Or.inl w1) Via.refl eT F E L wi hty hn hf (g := mkF m pc Ls (v :: .ref a :: rest)) rfl rfl hd
  exact own_go _ st (k T' h' ⟨_, Y', Fr.snoc Y' N g0⟩ e' W)
theorem own_S.initO (X : own_S p l e R s m args below meth c n0 T cells slots) (hx : p.tables.exec = Jvm.exec) (hZ : Z.Warmed39 s.vm) {own : String} {idx : Nat} (hown : s.vm.findClass own = some m.cls) (w1 : (Jvm.Cond.methodLink own idx Lib.objectInit).before a0 Z = true) (w2 : (Jvm.Cond.instanceMethod Lib.objectInit).before a0 Z = true)
    (w3 : (Jvm.Cond.code Lib.objectInit ⟨#[0xb1]⟩ 1 none).before a0 Z = true) (eT : T.heap = h) (hsize : Ls.size = c.maxLocals) (hd : decode c.code pc = .ok (.invokespecial idx, 3)) (hf : 1 ≤ R.frames) (W : Nat) (hW : (rest.map fun v => v.category).sum ≤ W) (hl : W + 12 ≤ R.locals)
    (k : ∀ T', own_S p l e R s m args below meth c n0 T' cells slots → T'.heap = h → own_G p e below s Q kc ks T' (mkF m (pc + 3) Ls rest)) : own_G p e below s Q kc ks T (mkF m pc Ls (.ref a :: rest)) := by
  obtain ⟨locs, Y, N⟩ := X
  obtain ⟨T', Y', e', st⟩ := Jvm.RoadKit.initO Y hx hZ hown w1 w2 w3 eT (g := mkF m pc Ls (.ref a :: rest)) rfl hsize (a := a) (rest := rest) rfl hd hf (W := W) (by show 2 * 0 + _ ≤ _; omega) hl
  exact own_go _ st (k T' ⟨locs, Y', N⟩ e')
/-- new -/
theorem own_S.newO (X : own_S p l e R s m args below meth c n0 T cells slots) (hx : p.tables.exec = Jvm.exec) (hZ : Z.Warmed39 s.vm) {own C : String} {index n : Nat} (hown : s.vm.findClass own = some m.cls) (w1 : (Jvm.Cond.classLink own index C).before a0 Z = true) (wi : (Jvm.Cond.instantiable C n).before a0 Z = true) (wz : (Jvm.Cond.initialized C).before a0 Z = true) (eT : T.heap = h)
    (hd : decode c.code pc = .ok (.new index, 3)) (hc : cells + 1 ≤ R.cells) (hl : slots + n ≤ R.slots)
    (k : ∀ T' h' (b : Addr), own_S p l e R s m args below meth c n0 T' (cells + 1) (slots + n) → T'.heap = h' → b = h.size → Ext h h' → Exa Z h' b C → (∀ {O nm d : String} {ty : FieldType}, Laid Z a0 C O nm d → parseFieldDescriptor d = some ty → Fld Z h' b O nm d (defaultValue ty)) → own_G p e below s Q kc ks T' (mkF m (pc + 3) Ls (.ref b :: rest))) :
    own_G p e below s Q kc ks T (mkF m pc Ls rest) := by
  obtain ⟨locs, Y, N⟩ := X
  obtain ⟨T', h', Y', e', E, A, D, -, st⟩ := Jvm.RoadKit.newO Y hx hZ hown w1 wi wz eT (g := mkF m pc Ls rest) rfl hd hc hl
  exact own_go _ st (k T' h' h.size ⟨_, Y', N⟩ e' rfl E A D)
/-- an array, by the list of what it holds -/
def own_A (Z : State) (h : Heap) (ty : FieldType) (a : Addr) (vs : List Value) : Prop := ∃ cl : Cell, Arr Z h a cl ty ∧ cl.slots = vs.toArray ∧ vs.length < 2 ^ 31
theorem own_A.lt (A : own_A Z h ty a vs) : a < h.size := A.elim fun _ q => q.1.lt
theorem own_A.ext (A : own_A Z h ty a vs) (E : Ext h h') : own_A Z h' ty a vs := A.elim fun cl q => ⟨cl, q.1.ext E, q.2⟩
theorem own_A.other (A : own_A Z h ty b vs) (W : Wr h h' a sl v) (q : b ≠ a) : own_A Z h' ty b vs := A.elim fun cl r => ⟨cl, r.1.other W q, r.2⟩
theorem own_A.keep {ws : List Addr} (A : own_A Z h ty a vs) (K : Keep h h' ws) (q : a ∉ ws) : own_A Z h' ty a vs := A.elim fun cl r => ⟨cl, ⟨K.2.1 a cl r.1.1 q, r.1.2⟩, r.2⟩
theorem own_A.set (A : own_A Z h ty a vs) {i : Nat} (W : Wr h h' a i v) : own_A Z h' ty a (vs.set i v) := by
  obtain ⟨cl, A, q1, q2⟩ := A
  refine ⟨_, A.same W, ?_, by rw [List.length_set]; exact q2⟩
  simp [Cell.setSlot, q1]
theorem own_A.len (A : own_A Z h ty a vs) : vs.length < 2 ^ 31 := A.elim fun _ q => q.2.2
theorem own_clamp {j : Int32} {i : Nat} (hj : j.toInt = i) : j.toNatClampNeg = i ∧ ¬ j < 0 := by
  refine ⟨by simp [Int32.toNatClampNeg, hj], ?_⟩
  rw [Int32.lt_iff_toInt_lt, Int32.toInt_zero]; omega
theorem own_in {cl : Cell} (q1 : cl.slots = vs.toArray) {j : Int32} {i : Nat} (hj : j.toInt = i) (hi : i < vs.length) : ¬ (j < 0 ∨ cl.slots.size ≤ j.toNatClampNeg) := by
  obtain ⟨c1, c2⟩ := own_clamp hj
  rw [q1, c1]; intro r
  rcases r with r | r
  · exact c2 r
  · simp at r; omega
theorem own_lt_of {i : Nat} (hv : vs[i]? = some v) : i < vs.length := (List.getElem?_eq_some_iff.mp hv).1
theorem own_S.ldJ (X : own_S p l e R s m args below meth c n0 T cells slots) (hx : p.tables.exec = Jvm.exec) (hZ : Z.Warmed39 s.vm) (eT : T.heap = h) (A : own_A Z h .long a vs) {j : Int32} (i : Nat) (hj : j.toInt = i) (hv : vs[i]? = some v) (hd : decode c.code pc = .ok (.laload, 1))
    (k : own_G p e below s Q kc ks T (mkF m (pc + 1) Ls (v :: rest))) : own_G p e below s Q kc ks T (mkF m pc Ls (.int j :: .ref a :: rest)) := by
  obtain ⟨locs, Y, N⟩ := X
  obtain ⟨cl, A, q1, q2⟩ := A
  refine own_go _ (fun t kt => Y.laload hx (j := j) (v := v) (by rw [eT]; exact A.1) (State.isArrayOf_alike hZ.alike A.2.1) A.2.2 (own_in q1 hj (own_lt_of hv)) (by rw [(own_clamp hj).1, q1]; simpa using hv) (g := mkF m pc Ls (.int j :: .ref a :: rest)) rfl rfl hd t kt) k
theorem own_S.ldI (X : own_S p l e R s m args below meth c n0 T cells slots) (hx : p.tables.exec = Jvm.exec) (hZ : Z.Warmed39 s.vm) (eT : T.heap = h) (A : own_A Z h .int a vs) {j : Int32} (i : Nat) (hj : j.toInt = i) (hv : vs[i]? = some v) (hd : decode c.code pc = .ok (.iaload, 1))
    (k : own_G p e below s Q kc ks T (mkF m (pc + 1) Ls (v :: rest))) : own_G p e below s Q kc ks T (mkF m pc Ls (.int j :: .ref a :: rest)) := by
  obtain ⟨locs, Y, N⟩ := X
  obtain ⟨cl, A, q1, q2⟩ := A
  refine own_go _ (fun t kt => Y.iaload hx (j := j) (v := v) (by rw [eT]; exact A.1) (State.isArrayOf_alike hZ.alike A.2.1) A.2.2 (own_in q1 hj (own_lt_of hv)) (by rw [(own_clamp hj).1, q1]; simpa using hv) (g := mkF m pc Ls (.int j :: .ref a :: rest)) rfl rfl hd t kt) k
theorem own_S.ldB (X : own_S p l e R s m args below meth c n0 T cells slots) (hx : p.tables.exec = Jvm.exec) (hZ : Z.Warmed39 s.vm) (eT : T.heap = h) (A : own_A Z h .byte a vs) {j : Int32} (i : Nat) (hj : j.toInt = i) (hv : vs[i]? = some v) (hd : decode c.code pc = .ok (.baload, 1))
    (k : own_G p e below s Q kc ks T (mkF m (pc + 1) Ls (v :: rest))) : own_G p e below s Q kc ks T (mkF m pc Ls (.int j :: .ref a :: rest)) := by
  obtain ⟨locs, Y, N⟩ := X
  obtain ⟨cl, A, q1, q2⟩ := A
  refine own_go _ (fun t kt => Y.baloadBytes hx (j := j) (v := v) (by rw [eT]; exact A.1) (State.isArrayOf_alike hZ.alike A.2.1) A.2.2 (own_in q1 hj (own_lt_of hv)) (by rw [(own_clamp hj).1, q1]; simpa using hv) (g := mkF m pc Ls (.int j :: .ref a :: rest)) rfl rfl hd t kt) k
theorem own_S.alen (X : own_S p l e R s m args below meth c n0 T cells slots) (hx : p.tables.exec = Jvm.exec) (hZ : Z.Warmed39 s.vm) (eT : T.heap = h) (A : own_A Z h ty a vs) (hd : decode c.code pc = .ok (.arraylength, 1))
    (k : own_G p e below s Q kc ks T (mkF m (pc + 1) Ls (.int (Int32.ofNat vs.length) :: rest))) : own_G p e below s Q kc ks T (mkF m pc Ls (.ref a :: rest)) := by
  obtain ⟨locs, Y, N⟩ := X
  obtain ⟨cl, A, q1, q2⟩ := A
  have q : cl.slots.size.toInt32 = Int32.ofNat vs.length := by rw [q1]; simp
  refine own_go _ (fun t kt => Y.arraylength hx (by rw [eT]; exact A.1) (State.isArrayOf_alike hZ.alike A.2.1) (g := mkF m pc Ls (.ref a :: rest)) rfl rfl hd t (by rw [q]; exact kt)) k
theorem own_S.stJ (X : own_S p l e R s m args below meth c n0 T cells slots) (hx : p.tables.exec = Jvm.exec) (hZ : Z.Warmed39 s.vm) (eT : T.heap = h) (A : own_A Z h .long a vs) (g0 : n0 ≤ a) {j : Int32} {x : Int64} (i : Nat) (hj : j.toInt = i) (hi : i < vs.length) (hd : decode c.code pc = .ok (.lastore, 1))
    (k : ∀ T' h', own_S p l e R s m args below meth c n0 T' cells slots → T'.heap = h' → Wr h h' a i (.long x) → own_A Z h' .long a (vs.set i (.long x)) → own_G p e below s Q kc ks T' (mkF m (pc + 1) Ls rest)) : own_G p e below s Q kc ks T (mkF m pc Ls (.long x :: .int j :: .ref a :: rest)) := by
  obtain ⟨locs, Y, N⟩ := X
  have A' := A
  obtain ⟨cl, A, q1, q2⟩ := A
  obtain ⟨T', h', Y', e', W, st⟩ := Jvm.RoadKit.stJ Y hx hZ eT A (j := j) (x := x) (own_in q1 hj hi) (g := mkF m pc Ls (.long x :: .int j :: .ref a :: rest)) rfl rfl hd
  rw [(own_clamp hj).1] at W
  exact own_go _ st (k T' h' ⟨_, Y', Fr.snoc Y' N g0⟩ e' W (A'.set W))
theorem own_S.stI (X : own_S p l e R s m args below meth c n0 T cells slots) (hx : p.tables.exec = Jvm.exec) (hZ : Z.Warmed39 s.vm) (eT : T.heap = h) (A : own_A Z h .int a vs) (g0 : n0 ≤ a) {j : Int32} {x : Int32} (i : Nat) (hj : j.toInt = i) (hi : i < vs.length) (hd : decode c.code pc = .ok (.iastore, 1))
    (k : ∀ T' h', own_S p l e R s m args below meth c n0 T' cells slots → T'.heap = h' → Wr h h' a i (.int x) → own_A Z h' .int a (vs.set i (.int x)) → own_G p e below s Q kc ks T' (mkF m (pc + 1) Ls rest)) : own_G p e below s Q kc ks T (mkF m pc Ls (.int x :: .int j :: .ref a :: rest)) := by
  obtain ⟨locs, Y, N⟩ := X
  have A' := A
  obtain ⟨cl, A, q1, q2⟩ := A
  obtain ⟨T', h', Y', e', W, st⟩ := Jvm.RoadKit.stI Y hx hZ eT A (j := j) (x := x) (own_in q1 hj hi) (g := mkF m pc Ls (.int x :: .int j :: .ref a :: rest)) rfl rfl hd
  rw [(own_clamp hj).1] at W
  exact own_go _ st (k T' h' ⟨_, Y', Fr.snoc Y' N g0⟩ e' W (A'.set W))
theorem own_S.stB (X : own_S p l e R s m args below meth c n0 T cells slots) (hx : p.tables.exec = Jvm.exec) (hZ : Z.Warmed39 s.vm) (eT : T.heap = h) (A : own_A Z h .byte a vs) (g0 : n0 ≤ a) {j : Int32} {x : Int32} (i : Nat) (hj : j.toInt = i) (hi : i < vs.length) (hd : decode c.code pc = .ok (.bastore, 1))
    (k : ∀ T' h', own_S p l e R s m args below meth c n0 T' cells slots → T'.heap = h' → Wr h h' a i (.int x.toInt8.toInt32) → own_A Z h' .byte a (vs.set i (.int x.toInt8.toInt32)) → own_G p e below s Q kc ks T' (mkF m (pc + 1) Ls rest)) : own_G p e below s Q kc ks T (mkF m pc Ls (.int x :: .int j :: .ref a :: rest)) := by
  obtain ⟨locs, Y, N⟩ := X
  have A' := A
  obtain ⟨cl, A, q1, q2⟩ := A
  obtain ⟨T', h', Y', e', W, st⟩ := Jvm.RoadKit.stB Y hx hZ eT A (j := j) (x := x) (own_in q1 hj hi) (g := mkF m pc Ls (.int x :: .int j :: .ref a :: rest)) rfl rfl hd
  rw [(own_clamp hj).1] at W
  exact own_go _ st (k T' h' ⟨_, Y', Fr.snoc Y' N g0⟩ e' W (A'.set W))
theorem own_S.stZ (X : own_S p l e R s m args below meth c n0 T cells slots) (hx : p.tables.exec = Jvm.exec) (hZ : Z.Warmed39 s.vm) (eT : T.heap = h) (A : own_A Z h .boolean a vs) (g0 : n0 ≤ a) {j : Int32} {x : Int32} (i : Nat) (hj : j.toInt = i) (hi : i < vs.length) (hd : decode c.code pc = .ok (.bastore, 1))
    (k : ∀ T' h', own_S p l e R s m args below meth c n0 T' cells slots → T'.heap = h' → Wr h h' a i (.int (x &&& 1)) → own_A Z h' .boolean a (vs.set i (.int (x &&& 1))) → own_G p e below s Q kc ks T' (mkF m (pc + 1) Ls rest)) : own_G p e below s Q kc ks T (mkF m pc Ls (.int x :: .int j :: .ref a :: rest)) := by
  obtain ⟨locs, Y, N⟩ := X
  have A' := A
  obtain ⟨cl, A, q1, q2⟩ := A
  obtain ⟨T', h', Y', e', W, st⟩ := Jvm.RoadKit.stZ Y hx hZ eT A (j := j) (x := x) (own_in q1 hj hi) (g := mkF m pc Ls (.int x :: .int j :: .ref a :: rest)) rfl rfl hd
  rw [(own_clamp hj).1] at W
  exact own_go _ st (k T' h' ⟨_, Y', Fr.snoc Y' N g0⟩ e' W (A'.set W))
theorem own_S.newP (X : own_S p l e R s m args below meth c n0 T cells slots) (hx : p.tables.exec = Jvm.exec) (hZ : Z.Warmed39 s.vm) {aty : ArrayType} (w1 : (Jvm.Cond.arrayClass (newarray.typeOf aty)).before a0 Z = true) (eT : T.heap = h) {j : Int32} (n : Nat) (hj : j.toInt = n) (hd : decode c.code pc = .ok (.newarray aty, 2)) (cap : Nat) (hn : n ≤ cap) (hb : cap * 8 ≤ 536870912) (hc : cells + 1 ≤ R.cells) (hl : slots + cap ≤ R.slots)
    (k : ∀ T' h' (b : Addr), own_S p l e R s m args below meth c n0 T' (cells + 1) (slots + cap) → T'.heap = h' → b = h.size → Ext h h' → own_A Z h' (newarray.typeOf aty) b (List.replicate n (defaultValue (newarray.typeOf aty))) → own_G p e below s Q kc ks T' (mkF m (pc + 2) Ls (.ref b :: rest))) :
    own_G p e below s Q kc ks T (mkF m pc Ls (.int j :: rest)) := by
  obtain ⟨locs, Y, N⟩ := X
  obtain ⟨c1, c2⟩ := own_clamp hj
  obtain ⟨T', h', cA, Y', e', E, A, st⟩ := Jvm.RoadKit.newP Y hx hZ w1 eT (g := mkF m pc Ls (.int j :: rest)) rfl hd rfl c2 (cap := cap) (by rw [c1]; exact hn) hb hc hl
  refine own_go _ st (k T' h' h.size ⟨_, Y', N⟩ e' rfl E ⟨_, A, ?_, ?_⟩)
  · simp [newA, c1]
  · rw [List.length_replicate]; omega
/-- calls -/
theorem own_S.callS (X : own_S p l e R s m args below meth c n0 T cells slots) (hx : p.tables.exec = Jvm.exec) (hZ : Z.Warmed39 s.vm) {own : String} {index : Nat} {y : MethodName} {bytes : ByteArray} {mx : Nat} {ret : Option FieldType} {rm : Room} {P : Option Value → Heap → Prop}
    (hown : s.vm.findClass own = some m.cls) (w1 : (Jvm.Cond.methodLink own index y).before a0 Z = true) (w2 : (Jvm.Cond.static y).before a0 Z = true) (w3 : (Jvm.Cond.initialized y.cls).before a0 Z = true) (w4 : (Jvm.Cond.code y bytes mx ret).before a0 Z = true) (hy : y.cls ≠ "java/lang/invoke/MethodHandle" ∧ y.cls ≠ "java/lang/invoke/VarHandle")
    (eT : T.heap = h) (argsL rest : List Value) (hM : own_C l Z y bytes mx ret [] rm argsL.toArray h (own_Q n0 P)) (W : Nat) (hf : rm.frames + 1 ≤ R.frames) (hlo : W + (mx + 11) + rm.locals ≤ R.locals) (hW : (rest.map fun v => v.category).sum ≤ W) (hc : cells + rm.cells ≤ R.cells) (hs : slots + rm.slots ≤ R.slots)
    {S : List Value} (hsize : Ls.size = c.maxLocals) (hlen : ∀ sig, parseMethodDescriptor y.desc = some sig → argsL.length = sig.parameters.length) (hS : S = argsL.reverse ++ rest) (hd : decode c.code pc = .ok (.invokestatic index, 3))
    (k : ∀ (T' : State) (v : Option Value), own_S p l e R s m args below meth c n0 T' (cells + rm.cells) (slots + rm.slots) → P v T'.heap → own_G p e below s Q kc ks T' (mkF m (pc + 3) Ls (v.toList ++ rest))) :
    own_G p e below s Q kc ks T (mkF m pc Ls S) := by
  obtain ⟨locs, Y, N⟩ := X
  exact own_callS Y hx hZ hown w1 w2 w3 w4 hy eT argsL rest hM W hf hlo hW hc hs hsize hlen hS hd fun T' v L Y' hq => k T' v ⟨_, Y', N.app hq.1⟩ hq.2
theorem own_S.callP (X : own_S p l e R s m args below meth c n0 T cells slots) (hx : p.tables.exec = Jvm.exec) (hZ : Z.Warmed39 s.vm) {own : String} {index : Nat} {y : MethodName} {bytes : ByteArray} {mx : Nat} {ret : Option FieldType} {fr lo : Nat} {r : Value}
    (hown : s.vm.findClass own = some m.cls) (w1 : (Jvm.Cond.methodLink own index y).before a0 Z = true) (w2 : (Jvm.Cond.static y).before a0 Z = true) (w3 : (Jvm.Cond.initialized y.cls).before a0 Z = true) (w4 : (Jvm.Cond.code y bytes mx ret).before a0 Z = true) (hy : y.cls ≠ "java/lang/invoke/MethodHandle" ∧ y.cls ≠ "java/lang/invoke/VarHandle")
    (eT : T.heap = h) (argsL rest : List Value) (hM : own_C l Z y bytes mx ret [] { frames := fr, cells := 0, slots := 0, locals := lo } argsL.toArray h (own_P r h)) (W : Nat) (hf : fr + 1 ≤ R.frames) (hlo : W + (mx + 11) + lo ≤ R.locals) (hW : (rest.map fun v => v.category).sum ≤ W) (hc : cells ≤ R.cells) (hs : slots ≤ R.slots)
    {S : List Value} (hsize : Ls.size = c.maxLocals) (hlen : ∀ sig, parseMethodDescriptor y.desc = some sig → argsL.length = sig.parameters.length) (hS : S = argsL.reverse ++ rest) (hd : decode c.code pc = .ok (.invokestatic index, 3))
    (k : ∀ (T' : State), own_S p l e R s m args below meth c n0 T' cells slots → T'.heap = h → own_G p e below s Q kc ks T' (mkF m (pc + 3) Ls (r :: rest))) :
    own_G p e below s Q kc ks T (mkF m pc Ls S) := by
  obtain ⟨locs, Y, N⟩ := X
  exact own_callP Y hx hZ hown w1 w2 w3 w4 hy eT argsL rest hM W hf hlo hW hc hs hsize hlen hS hd fun T' Y' e' => k T' ⟨_, Y', N⟩ e'
theorem own_S.callI (X : own_S p l e R s m args below meth c n0 T cells slots) (hx : p.tables.exec = Jvm.exec) (hZ : Z.Warmed39 s.vm) {own : String} {index : Nat} {y : MethodName} {bytes : ByteArray} {mx : Nat} {rm : Room} {P : Option Value → Heap → Prop} (hy1 : y.name = "<init>")
    (hown : s.vm.findClass own = some m.cls) (w1 : (Jvm.Cond.methodLink own index y).before a0 Z = true) (w2 : (Jvm.Cond.instanceMethod y).before a0 Z = true) (w3 : (Jvm.Cond.initialized y.cls).before a0 Z = true) (w4 : (Jvm.Cond.code y bytes mx none).before a0 Z = true) (hy : y.cls ≠ "java/lang/invoke/MethodHandle" ∧ y.cls ≠ "java/lang/invoke/VarHandle")
    (eT : T.heap = h) (a : Addr) (argsL rest : List Value) (hM : own_C l Z y bytes mx none [] rm (.ref a :: argsL).toArray h (own_Q n0 P)) (W : Nat) (hf : rm.frames + 1 ≤ R.frames) (hlo : W + (mx + 11) + rm.locals ≤ R.locals) (hW : (rest.map fun v => v.category).sum ≤ W) (hc : cells + rm.cells ≤ R.cells) (hs : slots + rm.slots ≤ R.slots)
    {S : List Value} (hsize : Ls.size = c.maxLocals) (hlen : ∀ sig, parseMethodDescriptor y.desc = some sig → argsL.length = sig.parameters.length) (hS : S = argsL.reverse ++ .ref a :: rest) (hd : decode c.code pc = .ok (.invokespecial index, 3))
    (k : ∀ (T' : State) (v : Option Value), own_S p l e R s m args below meth c n0 T' (cells + rm.cells) (slots + rm.slots) → P v T'.heap → own_G p e below s Q kc ks T' (mkF m (pc + 3) Ls (v.toList ++ rest))) :
    own_G p e below s Q kc ks T (mkF m pc Ls S) := by
  obtain ⟨locs, Y, N⟩ := X
  exact own_callI Y hx hZ hy1 hown w1 w2 w3 w4 hy eT a argsL rest hM W hf hlo hW hc hs hsize hlen hS hd fun T' v L Y' hq => k T' v ⟨_, Y', N.app hq.1⟩ hq.2
theorem own_S.callV (X : own_S p l e R s m args below meth c n0 T cells slots) (hx : p.tables.exec = Jvm.exec) (hZ : Z.Warmed39 s.vm) {own C : String} {index : Nat} {y : MethodName} {bytes : ByteArray} {mx : Nat} {ret : Option FieldType} {rm : Room} {P : Option Value → Heap → Prop}
    (hown : s.vm.findClass own = some m.cls) (w1 : (Jvm.Cond.methodLink own index y).before a0 Z = true) (w5 : (Jvm.Cond.declares y).before a0 Z = true) (w6 : (Jvm.Cond.selects C y y).before a0 Z = true) (w2 : (Jvm.Cond.instanceMethod y).before a0 Z = true) (w3 : (Jvm.Cond.initialized y.cls).before a0 Z = true) (w4 : (Jvm.Cond.code y bytes mx ret).before a0 Z = true) (hy : y.cls ≠ "java/lang/invoke/MethodHandle" ∧ y.cls ≠ "java/lang/invoke/VarHandle")
    (eT : T.heap = h) {a : Addr} (E : Exa Z h a C) (argsL rest : List Value) (hM : own_C l Z y bytes mx ret [] rm (.ref a :: argsL).toArray h (own_Q n0 P)) (W : Nat) (hf : rm.frames + 1 ≤ R.frames) (hlo : W + (mx + 11) + rm.locals ≤ R.locals) (hW : (rest.map fun v => v.category).sum ≤ W) (hc : cells + rm.cells ≤ R.cells) (hs : slots + rm.slots ≤ R.slots)
    {S : List Value} (hsize : Ls.size = c.maxLocals) (hlen : ∀ sig, parseMethodDescriptor y.desc = some sig → argsL.length = sig.parameters.length) (hS : S = argsL.reverse ++ .ref a :: rest) (hd : decode c.code pc = .ok (.invokevirtual index, 3))
    (k : ∀ (T' : State) (v : Option Value), own_S p l e R s m args below meth c n0 T' (cells + rm.cells) (slots + rm.slots) → P v T'.heap → own_G p e below s Q kc ks T' (mkF m (pc + 3) Ls (v.toList ++ rest))) :
    own_G p e below s Q kc ks T (mkF m pc Ls S) := by
  obtain ⟨locs, Y, N⟩ := X
  exact own_callV Y hx hZ hown w1 w5 w6 w2 w3 w4 hy eT E argsL rest hM W hf hlo hW hc hs hsize hlen hS hd fun T' v L Y' hq => k T' v ⟨_, Y', N.app hq.1⟩ hq.2
end OwnHeap
theorem own_pd0 : parseMethodDescriptor "(JJ)J" = some ⟨[.long, .long], some .long⟩ := by decide +kernel
theorem own_pd1 : parseMethodDescriptor "(I)V" = some ⟨[.int], none⟩ := by decide +kernel
theorem own_pd2 : parseMethodDescriptor "(J)I" = some ⟨[.long], some .int⟩ := by decide +kernel
theorem own_pd3 : parseMethodDescriptor "(II)I" = some ⟨[.int, .int], some .int⟩ := by decide +kernel
theorem own_pd4 : parseMethodDescriptor "(J)V" = some ⟨[.long], none⟩ := by decide +kernel
theorem own_pd5 : parseMethodDescriptor "([BI)V" = some ⟨[(.array .byte), .int], none⟩ := by decide +kernel
theorem own_pd6 : parseMethodDescriptor "(JI)J" = some ⟨[.long, .int], some .long⟩ := by decide +kernel
theorem own_pd7 : parseMethodDescriptor "()V" = some ⟨[], none⟩ := by decide +kernel
theorem own_pd8 : parseMethodDescriptor "(Lcom/example/vocab_scan/vocabscan/Walk;)Lcom/example/vocab_scan/vocabscan/Walk;" = some ⟨[(.object "com/example/vocab_scan/vocabscan/Walk")], some (.object "com/example/vocab_scan/vocabscan/Walk")⟩ := by decide +kernel
theorem own_pd9 : parseMethodDescriptor "(J)J" = some ⟨[.long], some .long⟩ := by decide +kernel
section OwnBytes
variable {p : Program} {l : Launch} {e : Env} {R : Room} {s : State} {m : MethodId} {args : Array Value} {below : List Frame} {meth : Method} {c : Code} {T T' : State} {locs : List Loc} {cells slots n0 n na nb : Nat} {Q : Option Value → Heap → List Loc → Prop} {kc ks : Nat} {Z : State} {a0 : Array Value} {h h' h0 : Heap} {a b src dst : Addr} {v w : Value} {sl pc : Nat} {Ls : Array Slot} {rest : List Value} {f g : Nat → Int32}
/-- a byte[] of n places by the function of what it holds -/
def own_B (Z : State) (h : Heap) (a : Addr) (n : Nat) (f : Nat → Int32) : Prop := ∃ cl : Cell, Arr Z h a cl .byte ∧ cl.slots.size = n ∧ n < 2 ^ 31 ∧ ∀ k, k < n → cl.slots[k]? = some (.int (f k)) ∧ fits .byte (.int (f k)) = true
theorem own_B.lt (A : own_B Z h a n f) : a < h.size := A.elim fun _ q => q.1.lt
theorem own_B.ext (A : own_B Z h a n f) (E : Ext h h') : own_B Z h' a n f := A.elim fun cl q => ⟨cl, q.1.ext E, q.2⟩
theorem own_B.other (A : own_B Z h b n f) (W : Wr h h' a sl v) (q : b ≠ a) : own_B Z h' b n f := A.elim fun cl r => ⟨cl, r.1.other W q, r.2⟩
theorem own_B.keep {ws : List Addr} (A : own_B Z h a n f) (K : Keep h h' ws) (q : a ∉ ws) : own_B Z h' a n f := A.elim fun cl r => ⟨cl, ⟨K.2.1 a cl r.1.1 q, r.1.2⟩, r.2⟩
theorem own_B.eq (A : own_B Z h a n f) (q : ∀ k, k < n → f k = g k) : own_B Z h a n g := A.elim fun cl r => ⟨cl, r.1, r.2.1, r.2.2.1, fun k hk => q k hk ▸ r.2.2.2 k hk⟩
theorem own_B.new (A : own_A Z h .byte a (List.replicate n (.int 0))) : own_B Z h a n (fun _ => 0) := by
  obtain ⟨cl, A, q1, q2⟩ := A
  rw [List.length_replicate] at q2
  refine ⟨cl, A, by rw [q1]; simp, q2, fun k hk => ⟨by rw [q1]; simp [hk], show fits .byte (.int 0) = true by decide⟩⟩
theorem own_B.set (A : own_B Z h a n f) {i : Nat} {x : Int32} (W : Wr h h' a i (.int x.toInt8.toInt32)) : own_B Z h' a n (fun k => if k = i then x.toInt8.toInt32 else f k) := by
  obtain ⟨cl, A, q1, q2, q3⟩ := A
  refine ⟨_, A.same W, by rw [sz_set]; exact q1, q2, fun k hk => ?_⟩
  by_cases u : k = i
  · subst u; dsimp only; rw [if_pos rfl]; exact ⟨by simp [Cell.setSlot, q1, hk], fits_nar_byte _⟩
  · dsimp only; rw [if_neg u]; refine ⟨?_, (q3 k hk).2⟩
    simp only [Cell.setSlot]; rw [Array.getElem?_setIfInBounds_ne (Ne.symm u)]; exact (q3 k hk).1
theorem own_inB {cl : Cell} (q1 : cl.slots.size = n) {j : Int32} {i : Nat} (hj : j.toInt = i) (hi : i < n) : ¬ (j < 0 ∨ cl.slots.size ≤ j.toNatClampNeg) := by
  obtain ⟨c1, c2⟩ := own_clamp hj
  rw [q1, c1]; intro r
  rcases r with r | r
  · exact c2 r
  · omega
theorem own_S.ldBf (X : own_S p l e R s m args below meth c n0 T cells slots) (hx : p.tables.exec = Jvm.exec) (hZ : Z.Warmed39 s.vm) (eT : T.heap = h) (A : own_B Z h a n f) {j : Int32} (i : Nat) (hj : j.toInt = i) (hi : i < n) (hd : decode c.code pc = .ok (.baload, 1))
    (k : own_G p e below s Q kc ks T (mkF m (pc + 1) Ls (.int (f i) :: rest))) : own_G p e below s Q kc ks T (mkF m pc Ls (.int j :: .ref a :: rest)) := by
  obtain ⟨locs, Y, N⟩ := X
  obtain ⟨cl, A, q1, q2, q3⟩ := A
  refine own_go _ (fun t kt => Y.baloadBytes hx (j := j) (v := .int (f i)) (by rw [eT]; exact A.1) (State.isArrayOf_alike hZ.alike A.2.1) A.2.2 (own_inB q1 hj hi) (by rw [(own_clamp hj).1]; exact (q3 i hi).1) (g := mkF m pc Ls (.int j :: .ref a :: rest)) rfl rfl hd t kt) k
theorem own_S.stBf (X : own_S p l e R s m args below meth c n0 T cells slots) (hx : p.tables.exec = Jvm.exec) (hZ : Z.Warmed39 s.vm) (eT : T.heap = h) (A : own_B Z h a n f) (g0 : n0 ≤ a) {j : Int32} {x : Int32} (i : Nat) (hj : j.toInt = i) (hi : i < n) (hd : decode c.code pc = .ok (.bastore, 1))
    (k : ∀ T' h', own_S p l e R s m args below meth c n0 T' cells slots → T'.heap = h' → Wr h h' a i (.int x.toInt8.toInt32) → own_B Z h' a n (fun k => if k = i then x.toInt8.toInt32 else f k) → own_G p e below s Q kc ks T' (mkF m (pc + 1) Ls rest)) : own_G p e below s Q kc ks T (mkF m pc Ls (.int x :: .int j :: .ref a :: rest)) := by
  obtain ⟨locs, Y, N⟩ := X
  have A' := A
  obtain ⟨cl, A, q1, q2, q3⟩ := A
  obtain ⟨T', h', Y', e', W, st⟩ := Jvm.RoadKit.stB Y hx hZ eT A (j := j) (x := x) (own_inB q1 hj hi) (g := mkF m pc Ls (.int x :: .int j :: .ref a :: rest)) rfl rfl hd
  rw [(own_clamp hj).1] at W
  exact own_go _ st (k T' h' ⟨_, Y', Fr.snoc Y' N g0⟩ e' W (A'.set W))
theorem own_S.alenB (X : own_S p l e R s m args below meth c n0 T cells slots) (hx : p.tables.exec = Jvm.exec) (hZ : Z.Warmed39 s.vm) (eT : T.heap = h) (A : own_B Z h a n f) (hd : decode c.code pc = .ok (.arraylength, 1))
    (k : own_G p e below s Q kc ks T (mkF m (pc + 1) Ls (.int (Int32.ofNat n) :: rest))) : own_G p e below s Q kc ks T (mkF m pc Ls (.ref a :: rest)) := by
  obtain ⟨locs, Y, N⟩ := X
  obtain ⟨cl, A, q1, q2⟩ := A
  have q : cl.slots.size.toInt32 = Int32.ofNat n := by rw [q1]
  refine own_go _ (fun t kt => Y.arraylength hx (by rw [eT]; exact A.1) (State.isArrayOf_alike hZ.alike A.2.1) (g := mkF m pc Ls (.ref a :: rest)) rfl rfl hd t (by rw [q]; exact kt)) k
/-- System.arraycopy of bytes, from one array to another -/
theorem own_S.acopy (X : own_S p l e R s m args below meth c n0 T cells slots) (hx : p.tables.exec = Jvm.exec) (hZ : Z.Warmed39 s.vm) {own : String} {index : Nat} (hown : s.vm.findClass own = some m.cls) (w1 : (Jvm.Cond.methodLink own index acN).before a0 Z = true) (w2 : (Jvm.Cond.native acN).before a0 Z = true) (w3 : (Jvm.Cond.static acN).before a0 Z = true) (w4 : (Jvm.Cond.initialized "java/lang/System").before a0 Z = true)
    (eT : T.heap = h) (A : own_B Z h src na f) (B : own_B Z h dst nb g) (g0 : n0 ≤ dst) {sp dp nn : Int32} (i j q : Nat) (hsp : sp.toInt = i) (hdp : dp.toInt = j) (hq : nn.toInt = q) (hi : i + q ≤ na) (hj : j + q ≤ nb)
    (hsize : Ls.size = c.maxLocals) (hd : decode c.code pc = .ok (.invokestatic index, 3)) (hf : 1 ≤ R.frames) (W : Nat) (hW : (rest.map fun v => v.category).sum ≤ W) (hlo : W + (nativeFrameWords "java/lang/System" "arraycopy" 5 + 11) ≤ R.locals)
    (k : ∀ T' h', own_S p l e R s m args below meth c n0 T' cells slots → T'.heap = h' → Keep h h' [dst] → own_B Z h' dst nb (fun x => if j ≤ x ∧ x < j + q then f (i + (x - j)) else g x) → own_G p e below s Q kc ks T' (mkF m (pc + 3) Ls rest)) :
    own_G p e below s Q kc ks T (mkF m pc Ls (.int nn :: .int dp :: .ref dst :: .int sp :: .ref src :: rest)) := by
  obtain ⟨locs, Y, N⟩ := X
  obtain ⟨cs, A, a1, a2, a3⟩ := A
  obtain ⟨cd, B, b1, b2, b3⟩ := B
  obtain ⟨i1, i2⟩ := own_clamp hsp
  obtain ⟨j1, j2⟩ := own_clamp hdp
  obtain ⟨q1, q2⟩ := own_clamp hq
  obtain ⟨-, ka, k1, ca, k2⟩ := State.isArrayOf_alike (T := s) hZ.alike A.2.1
  obtain ⟨-, kb, l1, cb, l2⟩ := State.isArrayOf_alike (T := s) hZ.alike B.2.1
  obtain ⟨vm₁, hW₁, Y', st⟩ := Y.arraycopyK hx hown (mvT hZ w1) (mvT hZ w2) (mvT hZ w3) (mvT hZ w4) (src := src) (dst := dst) (srcPos := sp) (destPos := dp) (n := nn) (cs := cs) (cd := cd) (by rw [eT]; exact A.1) (by rw [eT]; exact B.1)
    (fun k r => by have := A.plain; rw [r] at this; cases this) (fun k r => by have := B.plain; rw [r] at this; cases this) A.2.2 B.2.2 k1 l1 k2 l2 (by decide) i2 j2 q2 (by rw [hsp, hq, a1]; omega) (by rw [hdp, hq, b1]; omega)
    (fun vm₁ _ z hz => by
      rw [q1] at hz; rw [i1]
      have r := a3 (i + z) (by omega)
      have e : cs.slots.getD (i + z) .null = .int (f (i + z)) := by rw [Array.getD_eq_getD_getElem?, r.1]; rfl
      rw [e]; exact ⟨r.2, trivial⟩)
    (g := mkF m pc Ls (.int nn :: .int dp :: .ref dst :: .int sp :: .ref src :: rest)) rfl hsize rfl hd hf (by show 2 * 0 + _ + _ ≤ _; omega)
  have hdst : T.heap[dst]? = some cd := by rw [eT]; exact B.1
  have hlt : dst < T.heap.size := (Array.getElem?_eq_some_iff.mp hdst).1
  have F := Cell.storeRun_facts cd dp.toNatClampNeg (cs.stretch sp.toNatClampNeg nn.toNatClampNeg)
  have hself : ((T.setVm vm₁).setCell dst (copied cs cd sp dp nn)).heap[dst]? = some (copied cs cd sp dp nn) := State.heap_setCell_self (s := T.setVm vm₁) hdst
  have hoth : ∀ x, dst ≠ x → ((T.setVm vm₁).setCell dst (copied cs cd sp dp nn)).heap[x]? = h[x]? := fun x hne => by rw [State.heap_setCell_other hne, ← eT]; rfl
  refine own_go _ st (k _ _ ⟨_, Y', N.app fun y hy => by rw [copyLocs_base hy]; exact g0⟩ rfl ⟨?_, fun x cx hx' hn => ?_, fun x cx hx' => ?_⟩ ⟨copied cs cd sp dp nn, ⟨hself, ?_, ?_⟩, ?_, b2, fun x hx' => ?_⟩)
  · rw [← eT]; show T.heap.size ≤ (T.heap.setIfInBounds dst _).size; simp
  · rw [hoth x (fun r => hn (by rw [r]; exact List.mem_singleton.mpr rfl))]; exact hx'
  · by_cases r : dst = x
    · subst r
      cases (eT ▸ hdst : h[dst]? = some cd).symm.trans hx'
      exact ⟨_, hself, F.1, F.2.1, F.2.2.1⟩
    · exact ⟨cx, by rw [hoth x r]; exact hx', rfl, rfl, rfl⟩
  · obtain ⟨z1, z2⟩ := B.2.1
    exact ⟨by rw [F.2.1]; exact z1, by rw [F.1]; exact z2⟩
  · rw [F.2.1]; exact B.2.2
  · rw [F.2.2.1]; exact b1
  · have hlen := Cell.stretch_length cs sp.toNatClampNeg nn.toNatClampNeg
    show (cd.storeRun dp.toNatClampNeg (cs.stretch sp.toNatClampNeg nn.toNatClampNeg)).slots[x]? = _ ∧ _
    rw [Cell.storeRun_get _ _ _ _ (by rw [hlen, j1, q1, b1]; exact hj), hlen, j1, q1, i1]
    by_cases r : j ≤ x ∧ x < j + q
    · dsimp only; rw [if_pos r, if_pos r]
      have r3 := a3 (i + (x - j)) (by omega)
      refine ⟨?_, r3.2⟩
      have e : cs.slots.getD (i + (x - j)) .null = .int (f (i + (x - j))) := by rw [Array.getD_eq_getD_getElem?, r3.1]; rfl
      simp only [Cell.stretch]
      rw [List.getElem?_map, List.getElem?_range (by omega)]
      simp only [Option.map_some]
      exact congrArg some e
    · dsimp only; rw [if_neg r, if_neg r]; exact b3 x hx'
/-- an interface's method on an object -/
theorem own_S.callN (X : own_S p l e R s m args below meth c n0 T cells slots) (hx : p.tables.exec = Jvm.exec) (hZ : Z.Warmed39 s.vm) {own C : String} {index count : Nat} {xi y : MethodName} {bytes : ByteArray} {mx : Nat} {ret : Option FieldType} {rm : Room} {P : Option Value → Heap → Prop}
    (hown : s.vm.findClass own = some m.cls) (w1 : (Jvm.Cond.methodLink own index xi).before args s = true) (w5 : (Jvm.Cond.declares xi).before args s = true) (w7 : (Jvm.Cond.interfaceMethod xi.cls xi.cls xi.name xi.desc).before args s = true) (w6 : (Jvm.Cond.selects C xi y).before args s = true) (w2 : (Jvm.Cond.instanceMethod y).before args s = true) (w8 : (Jvm.Cond.publicMethod y).before args s = true) (w9 : (Jvm.Cond.unhidden C xi.name xi.desc).before args s = true) (w10 : (Jvm.Cond.castable C xi.cls).before args s = true) (w3 : (Jvm.Cond.initialized y.cls).before a0 Z = true) (w4 : (Jvm.Cond.code y bytes mx ret).before a0 Z = true) (hy : xi.cls ≠ "java/lang/invoke/MethodHandle" ∧ xi.cls ≠ "java/lang/invoke/VarHandle")
    (eT : T.heap = h) {a : Addr} (E : Exa Z h a C) (argsL rest : List Value) (hM : own_C l Z y bytes mx ret [] rm (.ref a :: argsL).toArray h (own_Q n0 P)) (W : Nat) (hf : rm.frames + 1 ≤ R.frames) (hlo : W + (mx + 11) + rm.locals ≤ R.locals) (hW : (rest.map fun v => v.category).sum ≤ W) (hc : cells + rm.cells ≤ R.cells) (hs : slots + rm.slots ≤ R.slots)
    {S : List Value} (hsize : Ls.size = c.maxLocals) (hlen : ∀ sig, parseMethodDescriptor xi.desc = some sig → argsL.length = sig.parameters.length) (hS : S = argsL.reverse ++ .ref a :: rest) (hd : decode c.code pc = .ok (.invokeinterface index count, 5))
    (k : ∀ (T' : State) (v : Option Value), own_S p l e R s m args below meth c n0 T' (cells + rm.cells) (slots + rm.slots) → P v T'.heap → own_G p e below s Q kc ks T' (mkF m (pc + 5) Ls (v.toList ++ rest))) :
    own_G p e below s Q kc ks T (mkF m pc Ls S) := by
  obtain ⟨locs, Y, N⟩ := X
  obtain ⟨cq, kq, qa, qb, qc⟩ := isOf hZ eT E
  obtain ⟨v, _, ⟨T', L', k', n'⟩, -, X', ⟨L, hQ, q1, q2, q3⟩, st⟩ := Y.interfaceBack hx (xi := xi) (y := y) hown w1 w5 w7 w6 w2 w8 w9 w10 hy (backOf (W := W) hM hZ w4 w3 hf hlo) qa qb qc (g := mkF m pc Ls S) rfl hsize (Steps.refl _) (argsL := argsL) (rest := rest) hlen hS (by show 2 * 0 + _ ≤ _; omega) hd (fun _ _ => ⟨rfl, eT, hc, hs⟩)
  dsimp only [Pt.U, Pt.locs, Pt.cells, Pt.slots] at X' q1 q2 q3 st hQ
  subst q1 q2 q3
  exact own_go _ (fun t kt => st.trans kt) (k T' v ⟨_, X', N.app hQ.1⟩ hQ.2)
end OwnBytes
section OwnPriv
variable {p : Program} {l : Launch} {e : Env} {R : Room} {s : State} {m : MethodId} {args : Array Value} {below : List Frame} {meth : Method} {c : Code} {T T' : State} {locs : List Loc} {cells slots n0 n : Nat} {Q : Option Value → Heap → List Loc → Prop} {kc ks : Nat} {Z : State} {a0 : Array Value} {h h' h0 : Heap} {a b : Addr} {pc : Nat} {Ls : Array Slot} {rest : List Value}
/-- a private instance method's call by invokevirtual -/
theorem own_S.callR (X : own_S p l e R s m args below meth c n0 T cells slots) (hx : p.tables.exec = Jvm.exec) (hZ : Z.Warmed39 s.vm) {own : String} {index ni : Nat} {y : MethodName} {bytes : ByteArray} {mx : Nat} {ret : Option FieldType} {rm : Room} {P : Option Value → Heap → Prop}
    (hown : s.vm.findClass own = some m.cls) (w1 : (Jvm.Cond.methodLink own index y).before a0 Z = true) (w5 : (Jvm.Cond.instantiable y.cls ni).before a0 Z = true) (w6 : (Jvm.Cond.privateMethod y).before a0 Z = true) (w2 : (Jvm.Cond.instanceMethod y).before a0 Z = true) (w3 : (Jvm.Cond.initialized y.cls).before a0 Z = true) (w4 : (Jvm.Cond.code y bytes mx ret).before a0 Z = true) (hy : y.cls ≠ "java/lang/invoke/MethodHandle" ∧ y.cls ≠ "java/lang/invoke/VarHandle")
    (eT : T.heap = h) {a : Addr} {C : String} (E : Exa Z h a C) (argsL rest : List Value) (hM : own_C l Z y bytes mx ret [] rm (.ref a :: argsL).toArray h (own_Q n0 P)) (W : Nat) (hf : rm.frames + 1 ≤ R.frames) (hlo : W + (mx + 11) + rm.locals ≤ R.locals) (hW : (rest.map fun v => v.category).sum ≤ W) (hc : cells + rm.cells ≤ R.cells) (hs : slots + rm.slots ≤ R.slots)
    {S : List Value} (hsize : Ls.size = c.maxLocals) (hlen : ∀ sig, parseMethodDescriptor y.desc = some sig → argsL.length = sig.parameters.length) (hS : S = argsL.reverse ++ .ref a :: rest) (hd : decode c.code pc = .ok (.invokevirtual index, 3))
    (k : ∀ (T' : State) (v : Option Value), own_S p l e R s m args below meth c n0 T' (cells + rm.cells) (slots + rm.slots) → P v T'.heap → own_G p e below s Q kc ks T' (mkF m (pc + 3) Ls (v.toList ++ rest))) :
    own_G p e below s Q kc ks T (mkF m pc Ls S) := by
  obtain ⟨locs, Y, N⟩ := X
  obtain ⟨cq, q1', q2'⟩ := E.cell
  have hpr : (Jvm.Cond.privateMethod y).before args s = true := mvP hZ w6
  have hin : (Jvm.Cond.instanceMethod y).before args s = true := mvT hZ w2
  have hsel : (Jvm.Cond.selects y.cls y y).before args s = true := Jvm.Kit.selects_private hy (mvT hZ w5) hpr hin
  obtain ⟨v, _, ⟨T', L', k', n'⟩, -, X', ⟨L, hQ, q1, q2, q3⟩, st⟩ := Y.privateBack hx (y := y) hown (mvT hZ w1) hin hsel (Jvm.Cond.privateMethod_at hpr) (mvT hZ w4) hy (backOf (W := W) hM hZ w4 w3 hf hlo) (g := mkF m pc Ls S) rfl hsize (Steps.refl _) (a := a) (by rw [eT]; exact q1') q2' (argsL := argsL) (rest := rest) hlen hS (by show 2 * 0 + _ ≤ _; omega) hd (fun _ _ => ⟨rfl, eT, hc, hs⟩)
  dsimp only [Pt.U, Pt.locs, Pt.cells, Pt.slots] at X' q1 q2 q3 st hQ
  subst q1 q2 q3
  exact own_go _ (fun t kt => st.trans kt) (k T' v ⟨_, X', N.app hQ.1⟩ hQ.2)
end OwnPriv

/-- a WordEdges object: its ring, what it hands on, whom to, how much it received and handed on -/
def own_W (Z : State) (h : Heap) (o ra ha : Addr) (wk : Value) (rcv hd : Int64) : Prop := Exa Z h o "com/example/vocab_scan/vocabscan/WordEdges" ∧ Fld Z h o "com/example/vocab_scan/vocabscan/WordEdges" "ring" "[B" (.ref ra) ∧ Fld Z h o "com/example/vocab_scan/vocabscan/WordEdges" "behind" "J" (.long (4 : Int64)) ∧ Fld Z h o "com/example/vocab_scan/vocabscan/WordEdges" "handing" "[B" (.ref ha) ∧ Fld Z h o "com/example/vocab_scan/vocabscan/WordEdges" "walk" "Lcom/example/vocab_scan/vocabscan/Walk;" wk ∧ Fld Z h o "com/example/vocab_scan/vocabscan/WordEdges" "received" "J" (.long rcv) ∧ Fld Z h o "com/example/vocab_scan/vocabscan/WordEdges" "handed" "J" (.long hd)
section OwnW
variable {Z : State} {h h' : Heap} {o ra ha a : Addr} {wk : Value} {rcv hd : Int64}
theorem own_W.lt (A : own_W Z h o ra ha wk rcv hd) : o < h.size := A.1.lt
theorem own_W.ext (A : own_W Z h o ra ha wk rcv hd) (E : Ext h h') : own_W Z h' o ra ha wk rcv hd := ⟨A.1.ext E, A.2.1.ext E, A.2.2.1.ext E, A.2.2.2.1.ext E, A.2.2.2.2.1.ext E, A.2.2.2.2.2.1.ext E, A.2.2.2.2.2.2.ext E⟩
theorem own_W.other {sl : Nat} {v : Value} (A : own_W Z h o ra ha wk rcv hd) (W : Wr h h' a sl v) (q : o ≠ a) : own_W Z h' o ra ha wk rcv hd := ⟨A.1.wr W, A.2.1.other W (Or.inl q), A.2.2.1.other W (Or.inl q), A.2.2.2.1.other W (Or.inl q), A.2.2.2.2.1.other W (Or.inl q), A.2.2.2.2.2.1.other W (Or.inl q), A.2.2.2.2.2.2.other W (Or.inl q)⟩
theorem own_W.keep {ws : List Addr} (A : own_W Z h o ra ha wk rcv hd) (K : Keep h h' ws) (q : o ∉ ws) : own_W Z h' o ra ha wk rcv hd := ⟨A.1.keep K, A.2.1.keep K q, A.2.2.1.keep K q, A.2.2.2.1.keep K q, A.2.2.2.2.1.keep K q, A.2.2.2.2.2.1.keep K q, A.2.2.2.2.2.2.keep K q⟩
end OwnW
theorem own_rem32 (x y : Int32) : (x - (x / y) * y).toInt = x.toInt.tmod y.toInt := by
  have a := (x % y).toInt_lt; have b := (x % y).le_toInt
  rw [Int32.toInt_mod] at a b
  rw [Int32.toInt_sub, Int32.toInt_mul, Int32.toInt_div, Int.bmod_mul_bmod, Int.sub_bmod_bmod, Int.mul_comm, ← Int.tmod_def]
  exact Jvm.Kit.bmod32 b a
theorem own_m5 (x : Int32) : ∃ n : Nat, ((x &&& (2147483647 : Int32)) - ((x &&& (2147483647 : Int32)) / (5 : Int32)) * (5 : Int32)).toInt = n ∧ n ≤ 4 := by
  have h1 := Jvm.Kit.i32_mask x 2147483647 (k := 31) (by decide) (by decide)
  have e5 : (5 : Int32).toInt = 5 := rfl
  have h2 := own_rem32 (x &&& (2147483647 : Int32)) 5
  rw [Int.tmod_eq_emod_of_nonneg (by omega), e5] at h2
  exact ⟨_, by rw [h2]; exact (Int.toNat_of_nonneg (Int.emod_nonneg _ (by decide))).symm, by omega⟩
theorem own_m15 (x : Int32) : 0 ≤ (x &&& (15 : Int32)).toInt ∧ (x &&& (15 : Int32)).toInt < 16 := by
  rw [Jvm.Kit.i32_mask x 15 (k := 4) (by decide) (by decide)]; omega

def own_by (d : Int64) (i : Int32) : Int64 := (((d.toUInt64 >>> (((8 : Int32) * i) &&& 0x3f).toInt64.toUInt64).toInt64) &&& (255 : Int64))
theorem own_dy_0 : decode method_3_code 0 = .ok (.lload_n 0, 1) := by decide +kernel
theorem own_dy_1 : decode method_3_code 1 = .ok (.bipush 8, 2) := by decide +kernel
theorem own_dy_3 : decode method_3_code 3 = .ok (.iload_n 2, 1) := by decide +kernel
theorem own_dy_4 : decode method_3_code 4 = .ok (.imul, 1) := by decide +kernel
theorem own_dy_5 : decode method_3_code 5 = .ok (.lushr, 1) := by decide +kernel
theorem own_dy_6 : decode method_3_code 6 = .ok (.ldc2_w 37, 3) := by decide +kernel
theorem own_dy_9 : decode method_3_code 9 = .ok (.land, 1) := by decide +kernel
theorem own_dy_10 : decode method_3_code 10 = .ok (.lreturn, 1) := by decide +kernel
theorem own_pn_own_byC : plainFor (⟨"com/example/vocab_scan/vocabscan/WordEdgesBytesBeforePinLaw", "byteOf", "(JI)J"⟩ : MethodName) = true := plainFor_of_name (show plainName "com/example/vocab_scan/vocabscan/WordEdgesBytesBeforePinLaw" = true by first | (simp [plainName, overriddenIn]; done) | decide +kernel)
set_option maxRecDepth 65536 in
set_option maxHeartbeats 40000000 in
theorem own_byC (l : Launch) (Z : State) (a0 : Array Value) (hw : ∀ d ∈ tables_1, d.before a0 Z = true) (ws : List Jvm.Cond) (h0 : Heap) (d : Int64) (i : Int32)  :
    own_C l Z (⟨"com/example/vocab_scan/vocabscan/WordEdgesBytesBeforePinLaw", "byteOf", "(JI)J"⟩ : MethodName) method_3_code 3 (some .long) ws ({ frames := 0, cells := 0, slots := 0, locals := 0 } : Room) #[(.long d), (.int i)] h0 (own_P (.long (own_by d i)) h0) := by
  refine own_met own_pn_own_byC #[jv d, .second, iv i] (fun m => by first | (simp [entryFrame, mkF, argsToLocals, Value.category]; done) | rfl) ?_
  intro p e s m below meth c s₁ hx hby hml hown hret hlk hZ hnm X0 e0
  refine own_gs 1 [(.long d)] (fun t' k => XS.lloadN X0.here hx rfl (hb hby own_dy_0) rfl  k) ?_
  refine own_gs 3 [(.int (8 : Int32)), (.long d)] (fun t' k => XS.bipush X0.here hx rfl (hb hby own_dy_1) k) ?_
  refine own_gs 4 [(.int i), (.int (8 : Int32)), (.long d)] (fun t' k => XS.iloadN X0.here hx rfl (hb hby own_dy_3) rfl  k) ?_
  refine own_gs 5 [(.int ((8 : Int32) * i)), (.long d)] (fun t' k => XS.imul X0.here hx rfl (hb hby own_dy_4) rfl k) ?_
  refine own_gs 6 [(.long ((d.toUInt64 >>> (((8 : Int32) * i) &&& 0x3f).toInt64.toUInt64).toInt64))] (fun t' k => XS.lushr X0.here hx rfl (hb hby own_dy_5) rfl k) ?_
  refine own_gs 9 [(.long (255 : Int64)), (.long ((d.toUInt64 >>> (((8 : Int32) * i) &&& 0x3f).toInt64.toUInt64).toInt64))] (fun t' k => X0.ldc2Long hx hown (mvT hZ (hw _ (List.mem_of_getElem? (i := 6) rfl))) (g := (mkF m 6 #[jv d, .second, iv i] [(.long ((d.toUInt64 >>> (((8 : Int32) * i) &&& 0x3f).toInt64.toUInt64).toInt64))])) rfl (hb hby own_dy_6) _ k) ?_
  refine own_gs 10 [(.long (((d.toUInt64 >>> (((8 : Int32) * i) &&& 0x3f).toInt64.toUInt64).toInt64) &&& (255 : Int64)))] (fun t' k => XS.land X0.here hx rfl (hb hby own_dy_9) rfl k) ?_
  refine own_retJ X0 hx hlk hret (hb hby own_dy_10) ?_ (by decide) (by decide)
  exact ⟨congrArg (fun z => some (Value.long z)) ((show (own_by d i) = (((d.toUInt64 >>> (((8 : Int32) * i) &&& 0x3f).toInt64.toUInt64).toInt64) &&& (255 : Int64)) from rfl).trans (by rfl : (((d.toUInt64 >>> (((8 : Int32) * i) &&& 0x3f).toInt64.toUInt64).toInt64) &&& (255 : Int64)) = (((d.toUInt64 >>> (((8 : Int32) * i) &&& 0x3f).toInt64.toUInt64).toInt64) &&& (255 : Int64)))).symm, e0, rfl⟩

def own_max (x : Int64) (y : Int64) : Int64 := (if x < y then y else x)
theorem own_dm_0 : decode jdk_29_method_66_code 0 = .ok (.lload_n 0, 1) := by decide +kernel
theorem own_dm_1 : decode jdk_29_method_66_code 1 = .ok (.lload_n 2, 1) := by decide +kernel
theorem own_dm_2 : decode jdk_29_method_66_code 2 = .ok (.lcmp, 1) := by decide +kernel
theorem own_dm_3 : decode jdk_29_method_66_code 3 = .ok (.ifCond .lt 7, 3) := by decide +kernel
theorem own_dm_6 : decode jdk_29_method_66_code 6 = .ok (.lload_n 0, 1) := by decide +kernel
theorem own_dm_7 : decode jdk_29_method_66_code 7 = .ok (.goto 4, 3) := by decide +kernel
theorem own_dm_10 : decode jdk_29_method_66_code 10 = .ok (.lload_n 2, 1) := by decide +kernel
theorem own_dm_11 : decode jdk_29_method_66_code 11 = .ok (.lreturn, 1) := by decide +kernel
theorem own_pn_own_maxC : plainFor (⟨"java/lang/Math", "max", "(JJ)J"⟩ : MethodName) = true := by first | decide +kernel | exact Jvm.Free.JP.mathPlain rfl (by decide +kernel)
set_option maxRecDepth 65536 in
set_option maxHeartbeats 40000000 in
theorem own_maxC (l : Launch) (Z : State) (a0 : Array Value) (hw : ∀ d ∈ tables_1, d.before a0 Z = true) (ws : List Jvm.Cond) (h0 : Heap) (x y : Int64)  :
    own_C l Z (⟨"java/lang/Math", "max", "(JJ)J"⟩ : MethodName) jdk_29_method_66_code 4 (some .long) ws ({ frames := 0, cells := 0, slots := 0, locals := 0 } : Room) #[(.long x), (.long y)] h0 (own_P (.long (own_max x y)) h0) := by
  refine own_met own_pn_own_maxC #[jv x, .second, jv y, .second] (fun m => by first | (simp [entryFrame, mkF, argsToLocals, Value.category]; done) | rfl) ?_
  intro p e s m below meth c s₁ hx hby hml hown hret hlk hZ hnm X0 e0
  refine own_gs 1 [(.long x)] (fun t' k => XS.lloadN X0.here hx rfl (hb hby own_dm_0) rfl  k) ?_
  refine own_gs 2 [(.long y), (.long x)] (fun t' k => XS.lloadN X0.here hx rfl (hb hby own_dm_1) rfl  k) ?_
  refine own_gs 3 [(.int (lcmpW x y))] (fun t' k => XS.lcmp X0.here hx rfl (hb hby own_dm_2) rfl k) ?_
  by_cases hc3 : x < y
  · skip
    refine own_gs 10 [] (fun t' k => XS.ifYes X0.here hx rfl (pc0 := 3) (pc' := 10) rfl (hb hby own_dm_3) rfl ((if0 _ _).trans (tlt ((lw_lt x y).mpr hc3)).1) (by decide) (by decide) k) ?_
    refine own_gs 11 [(.long y)] (fun t' k => XS.lloadN X0.here hx rfl (hb hby own_dm_10) rfl  k) ?_
    refine own_retJ X0 hx hlk hret (hb hby own_dm_11) ?_ (by decide) (by decide)
    exact ⟨congrArg (fun z => some (Value.long z)) ((show (own_max x y) = y from ((if_pos hc3).trans rfl)).trans (by rfl : y = y)).symm, e0, rfl⟩
  · skip
    refine own_gs 6 [] (fun t' k => XS.ifNo X0.here hx rfl (hb hby own_dm_3) rfl ((if0 _ _).trans (flt (fun q' => hc3 ((lw_lt x y).mp q'))).1) k) ?_
    refine own_gs 7 [(.long x)] (fun t' k => XS.lloadN X0.here hx rfl (hb hby own_dm_6) rfl  k) ?_
    refine own_gs 11 [(.long x)] (fun t' k => XS.goto X0.here hx rfl (pc0 := 7) (pc' := 11) rfl (hb hby own_dm_7) (by decide) (by decide) k) ?_
    refine own_retJ X0 hx hlk hret (hb hby own_dm_11) ?_ (by decide) (by decide)
    exact ⟨congrArg (fun z => some (Value.long z)) ((show (own_max x y) = x from ((if_neg hc3).trans rfl)).trans (by rfl : x = x)).symm, e0, rfl⟩

def own_min (x : Int32) (y : Int32) : Int32 := (if y < x then y else x)
theorem own_di_0 : decode jdk_29_method_69_code 0 = .ok (.iload_n 0, 1) := by decide +kernel
theorem own_di_1 : decode jdk_29_method_69_code 1 = .ok (.iload_n 1, 1) := by decide +kernel
theorem own_di_2 : decode jdk_29_method_69_code 2 = .ok (.if_icmp .gt 7, 3) := by decide +kernel
theorem own_di_5 : decode jdk_29_method_69_code 5 = .ok (.iload_n 0, 1) := by decide +kernel
theorem own_di_6 : decode jdk_29_method_69_code 6 = .ok (.goto 4, 3) := by decide +kernel
theorem own_di_9 : decode jdk_29_method_69_code 9 = .ok (.iload_n 1, 1) := by decide +kernel
theorem own_di_10 : decode jdk_29_method_69_code 10 = .ok (.ireturn, 1) := by decide +kernel
theorem own_pn_own_minC : plainFor (⟨"java/lang/Math", "min", "(II)I"⟩ : MethodName) = true := by first | decide +kernel | exact Jvm.Free.JP.mathPlain rfl (by decide +kernel)
set_option maxRecDepth 65536 in
set_option maxHeartbeats 40000000 in
theorem own_minC (l : Launch) (Z : State) (a0 : Array Value) (hw : ∀ d ∈ tables_1, d.before a0 Z = true) (ws : List Jvm.Cond) (h0 : Heap) (x y : Int32)  :
    own_C l Z (⟨"java/lang/Math", "min", "(II)I"⟩ : MethodName) jdk_29_method_69_code 2 (some .int) ws ({ frames := 0, cells := 0, slots := 0, locals := 0 } : Room) #[(.int x), (.int y)] h0 (own_P (.int (own_min x y)) h0) := by
  refine own_met own_pn_own_minC #[iv x, iv y] (fun m => by first | (simp [entryFrame, mkF, argsToLocals, Value.category]; done) | rfl) ?_
  intro p e s m below meth c s₁ hx hby hml hown hret hlk hZ hnm X0 e0
  refine own_gs 1 [(.int x)] (fun t' k => XS.iloadN X0.here hx rfl (hb hby own_di_0) rfl  k) ?_
  refine own_gs 2 [(.int y), (.int x)] (fun t' k => XS.iloadN X0.here hx rfl (hb hby own_di_1) rfl  k) ?_
  by_cases hc2 : y < x
  · skip
    refine own_gs 9 [] (fun t' k => XS.icmpYes X0.here hx rfl (pc0 := 2) (pc' := 9) rfl (hb hby own_di_2) rfl (tlt hc2).2.2.1 (by decide) (by decide) k) ?_
    refine own_gs 10 [(.int y)] (fun t' k => XS.iloadN X0.here hx rfl (hb hby own_di_9) rfl  k) ?_
    refine own_retI X0 hx hlk hret (hb hby own_di_10) ?_ (by decide) (by decide)
    exact ⟨congrArg (fun z => some (Value.int z)) ((show (own_min x y) = y from ((if_pos hc2).trans rfl)).trans (by rfl : y = y)).symm, e0, rfl⟩
  · skip
    refine own_gs 5 [] (fun t' k => XS.icmpNo X0.here hx rfl (hb hby own_di_2) rfl (flt hc2).2.2.1 k) ?_
    refine own_gs 6 [(.int x)] (fun t' k => XS.iloadN X0.here hx rfl (hb hby own_di_5) rfl  k) ?_
    refine own_gs 10 [(.int x)] (fun t' k => XS.goto X0.here hx rfl (pc0 := 6) (pc' := 10) rfl (hb hby own_di_6) (by decide) (by decide) k) ?_
    refine own_retI X0 hx hlk hret (hb hby own_di_10) ?_ (by decide) (by decide)
    exact ⟨congrArg (fun z => some (Value.int z)) ((show (own_min x y) = x from ((if_neg hc2).trans rfl)).trans (by rfl : x = x)).symm, e0, rfl⟩


theorem own_minq {x y : Int32} (h : x.toInt ≤ y.toInt) : own_min x y = x := by
  unfold own_min
  rw [if_neg (by rw [Int32.lt_iff_toInt_lt]; omega)]
theorem own_max0 : own_max (0 : Int64) (-4 : Int64) = 0 := by decide

theorem own_sn_WordEdges_behind_ring {Z : State} {a0 : Array Value} (hw : ∀ d ∈ tables_1, d.before a0 Z = true) : Jvm.RoadKit.slotOf Z "com/example/vocab_scan/vocabscan/WordEdges" "behind" "J" ≠ Jvm.RoadKit.slotOf Z "com/example/vocab_scan/vocabscan/WordEdges" "ring" "[B" := slot_ne (Or.inl (hw _ (List.mem_of_getElem? (i := 20) rfl))) (Or.inl (hw _ (List.mem_of_getElem? (i := 17) rfl))) (by decide) (t := .long) (t' := (.array .byte)) (by decide) (by decide)
theorem own_sn_WordEdges_handing_ring {Z : State} {a0 : Array Value} (hw : ∀ d ∈ tables_1, d.before a0 Z = true) : Jvm.RoadKit.slotOf Z "com/example/vocab_scan/vocabscan/WordEdges" "handing" "[B" ≠ Jvm.RoadKit.slotOf Z "com/example/vocab_scan/vocabscan/WordEdges" "ring" "[B" := slot_ne (Or.inl (hw _ (List.mem_of_getElem? (i := 22) rfl))) (Or.inl (hw _ (List.mem_of_getElem? (i := 17) rfl))) (by decide) (t := (.array .byte)) (t' := (.array .byte)) (by decide) (by decide)
theorem own_sn_WordEdges_walk_ring {Z : State} {a0 : Array Value} (hw : ∀ d ∈ tables_1, d.before a0 Z = true) : Jvm.RoadKit.slotOf Z "com/example/vocab_scan/vocabscan/WordEdges" "walk" "Lcom/example/vocab_scan/vocabscan/Walk;" ≠ Jvm.RoadKit.slotOf Z "com/example/vocab_scan/vocabscan/WordEdges" "ring" "[B" := slot_ne (Or.inl (hw _ (List.mem_of_getElem? (i := 31) rfl))) (Or.inl (hw _ (List.mem_of_getElem? (i := 17) rfl))) (by decide) (t := (.object "com/example/vocab_scan/vocabscan/Walk")) (t' := (.array .byte)) (by decide) (by decide)
theorem own_sn_WordEdges_received_ring {Z : State} {a0 : Array Value} (hw : ∀ d ∈ tables_1, d.before a0 Z = true) : Jvm.RoadKit.slotOf Z "com/example/vocab_scan/vocabscan/WordEdges" "received" "J" ≠ Jvm.RoadKit.slotOf Z "com/example/vocab_scan/vocabscan/WordEdges" "ring" "[B" := slot_ne (Or.inl (hw _ (List.mem_of_getElem? (i := 48) rfl))) (Or.inl (hw _ (List.mem_of_getElem? (i := 17) rfl))) (by decide) (t := .long) (t' := (.array .byte)) (by decide) (by decide)
theorem own_sn_WordEdges_handed_ring {Z : State} {a0 : Array Value} (hw : ∀ d ∈ tables_1, d.before a0 Z = true) : Jvm.RoadKit.slotOf Z "com/example/vocab_scan/vocabscan/WordEdges" "handed" "J" ≠ Jvm.RoadKit.slotOf Z "com/example/vocab_scan/vocabscan/WordEdges" "ring" "[B" := slot_ne (Or.inl (hw _ (List.mem_of_getElem? (i := 42) rfl))) (Or.inl (hw _ (List.mem_of_getElem? (i := 17) rfl))) (by decide) (t := .long) (t' := (.array .byte)) (by decide) (by decide)
theorem own_sn_WordEdges_character_ring {Z : State} {a0 : Array Value} (hw : ∀ d ∈ tables_1, d.before a0 Z = true) : Jvm.RoadKit.slotOf Z "com/example/vocab_scan/vocabscan/WordEdges" "character" "[B" ≠ Jvm.RoadKit.slotOf Z "com/example/vocab_scan/vocabscan/WordEdges" "ring" "[B" := slot_ne (Or.inr (hw _ (List.mem_of_getElem? (i := 24) rfl))) (Or.inl (hw _ (List.mem_of_getElem? (i := 17) rfl))) (by decide) (t := (.array .byte)) (t' := (.array .byte)) (by decide) (by decide)
theorem own_sn_WordEdges_ring_behind {Z : State} {a0 : Array Value} (hw : ∀ d ∈ tables_1, d.before a0 Z = true) : Jvm.RoadKit.slotOf Z "com/example/vocab_scan/vocabscan/WordEdges" "ring" "[B" ≠ Jvm.RoadKit.slotOf Z "com/example/vocab_scan/vocabscan/WordEdges" "behind" "J" := slot_ne (Or.inl (hw _ (List.mem_of_getElem? (i := 17) rfl))) (Or.inl (hw _ (List.mem_of_getElem? (i := 20) rfl))) (by decide) (t := (.array .byte)) (t' := .long) (by decide) (by decide)
theorem own_sn_WordEdges_handing_behind {Z : State} {a0 : Array Value} (hw : ∀ d ∈ tables_1, d.before a0 Z = true) : Jvm.RoadKit.slotOf Z "com/example/vocab_scan/vocabscan/WordEdges" "handing" "[B" ≠ Jvm.RoadKit.slotOf Z "com/example/vocab_scan/vocabscan/WordEdges" "behind" "J" := slot_ne (Or.inl (hw _ (List.mem_of_getElem? (i := 22) rfl))) (Or.inl (hw _ (List.mem_of_getElem? (i := 20) rfl))) (by decide) (t := (.array .byte)) (t' := .long) (by decide) (by decide)
theorem own_sn_WordEdges_walk_behind {Z : State} {a0 : Array Value} (hw : ∀ d ∈ tables_1, d.before a0 Z = true) : Jvm.RoadKit.slotOf Z "com/example/vocab_scan/vocabscan/WordEdges" "walk" "Lcom/example/vocab_scan/vocabscan/Walk;" ≠ Jvm.RoadKit.slotOf Z "com/example/vocab_scan/vocabscan/WordEdges" "behind" "J" := slot_ne (Or.inl (hw _ (List.mem_of_getElem? (i := 31) rfl))) (Or.inl (hw _ (List.mem_of_getElem? (i := 20) rfl))) (by decide) (t := (.object "com/example/vocab_scan/vocabscan/Walk")) (t' := .long) (by decide) (by decide)
theorem own_sn_WordEdges_received_behind {Z : State} {a0 : Array Value} (hw : ∀ d ∈ tables_1, d.before a0 Z = true) : Jvm.RoadKit.slotOf Z "com/example/vocab_scan/vocabscan/WordEdges" "received" "J" ≠ Jvm.RoadKit.slotOf Z "com/example/vocab_scan/vocabscan/WordEdges" "behind" "J" := slot_ne (Or.inl (hw _ (List.mem_of_getElem? (i := 48) rfl))) (Or.inl (hw _ (List.mem_of_getElem? (i := 20) rfl))) (by decide) (t := .long) (t' := .long) (by decide) (by decide)
theorem own_sn_WordEdges_handed_behind {Z : State} {a0 : Array Value} (hw : ∀ d ∈ tables_1, d.before a0 Z = true) : Jvm.RoadKit.slotOf Z "com/example/vocab_scan/vocabscan/WordEdges" "handed" "J" ≠ Jvm.RoadKit.slotOf Z "com/example/vocab_scan/vocabscan/WordEdges" "behind" "J" := slot_ne (Or.inl (hw _ (List.mem_of_getElem? (i := 42) rfl))) (Or.inl (hw _ (List.mem_of_getElem? (i := 20) rfl))) (by decide) (t := .long) (t' := .long) (by decide) (by decide)
theorem own_sn_WordEdges_character_behind {Z : State} {a0 : Array Value} (hw : ∀ d ∈ tables_1, d.before a0 Z = true) : Jvm.RoadKit.slotOf Z "com/example/vocab_scan/vocabscan/WordEdges" "character" "[B" ≠ Jvm.RoadKit.slotOf Z "com/example/vocab_scan/vocabscan/WordEdges" "behind" "J" := slot_ne (Or.inr (hw _ (List.mem_of_getElem? (i := 24) rfl))) (Or.inl (hw _ (List.mem_of_getElem? (i := 20) rfl))) (by decide) (t := (.array .byte)) (t' := .long) (by decide) (by decide)
theorem own_sn_WordEdges_ring_handing {Z : State} {a0 : Array Value} (hw : ∀ d ∈ tables_1, d.before a0 Z = true) : Jvm.RoadKit.slotOf Z "com/example/vocab_scan/vocabscan/WordEdges" "ring" "[B" ≠ Jvm.RoadKit.slotOf Z "com/example/vocab_scan/vocabscan/WordEdges" "handing" "[B" := slot_ne (Or.inl (hw _ (List.mem_of_getElem? (i := 17) rfl))) (Or.inl (hw _ (List.mem_of_getElem? (i := 22) rfl))) (by decide) (t := (.array .byte)) (t' := (.array .byte)) (by decide) (by decide)
theorem own_sn_WordEdges_behind_handing {Z : State} {a0 : Array Value} (hw : ∀ d ∈ tables_1, d.before a0 Z = true) : Jvm.RoadKit.slotOf Z "com/example/vocab_scan/vocabscan/WordEdges" "behind" "J" ≠ Jvm.RoadKit.slotOf Z "com/example/vocab_scan/vocabscan/WordEdges" "handing" "[B" := slot_ne (Or.inl (hw _ (List.mem_of_getElem? (i := 20) rfl))) (Or.inl (hw _ (List.mem_of_getElem? (i := 22) rfl))) (by decide) (t := .long) (t' := (.array .byte)) (by decide) (by decide)
theorem own_sn_WordEdges_walk_handing {Z : State} {a0 : Array Value} (hw : ∀ d ∈ tables_1, d.before a0 Z = true) : Jvm.RoadKit.slotOf Z "com/example/vocab_scan/vocabscan/WordEdges" "walk" "Lcom/example/vocab_scan/vocabscan/Walk;" ≠ Jvm.RoadKit.slotOf Z "com/example/vocab_scan/vocabscan/WordEdges" "handing" "[B" := slot_ne (Or.inl (hw _ (List.mem_of_getElem? (i := 31) rfl))) (Or.inl (hw _ (List.mem_of_getElem? (i := 22) rfl))) (by decide) (t := (.object "com/example/vocab_scan/vocabscan/Walk")) (t' := (.array .byte)) (by decide) (by decide)
theorem own_sn_WordEdges_received_handing {Z : State} {a0 : Array Value} (hw : ∀ d ∈ tables_1, d.before a0 Z = true) : Jvm.RoadKit.slotOf Z "com/example/vocab_scan/vocabscan/WordEdges" "received" "J" ≠ Jvm.RoadKit.slotOf Z "com/example/vocab_scan/vocabscan/WordEdges" "handing" "[B" := slot_ne (Or.inl (hw _ (List.mem_of_getElem? (i := 48) rfl))) (Or.inl (hw _ (List.mem_of_getElem? (i := 22) rfl))) (by decide) (t := .long) (t' := (.array .byte)) (by decide) (by decide)
theorem own_sn_WordEdges_handed_handing {Z : State} {a0 : Array Value} (hw : ∀ d ∈ tables_1, d.before a0 Z = true) : Jvm.RoadKit.slotOf Z "com/example/vocab_scan/vocabscan/WordEdges" "handed" "J" ≠ Jvm.RoadKit.slotOf Z "com/example/vocab_scan/vocabscan/WordEdges" "handing" "[B" := slot_ne (Or.inl (hw _ (List.mem_of_getElem? (i := 42) rfl))) (Or.inl (hw _ (List.mem_of_getElem? (i := 22) rfl))) (by decide) (t := .long) (t' := (.array .byte)) (by decide) (by decide)
theorem own_sn_WordEdges_character_handing {Z : State} {a0 : Array Value} (hw : ∀ d ∈ tables_1, d.before a0 Z = true) : Jvm.RoadKit.slotOf Z "com/example/vocab_scan/vocabscan/WordEdges" "character" "[B" ≠ Jvm.RoadKit.slotOf Z "com/example/vocab_scan/vocabscan/WordEdges" "handing" "[B" := slot_ne (Or.inr (hw _ (List.mem_of_getElem? (i := 24) rfl))) (Or.inl (hw _ (List.mem_of_getElem? (i := 22) rfl))) (by decide) (t := (.array .byte)) (t' := (.array .byte)) (by decide) (by decide)
theorem own_sn_WordEdges_ring_character {Z : State} {a0 : Array Value} (hw : ∀ d ∈ tables_1, d.before a0 Z = true) : Jvm.RoadKit.slotOf Z "com/example/vocab_scan/vocabscan/WordEdges" "ring" "[B" ≠ Jvm.RoadKit.slotOf Z "com/example/vocab_scan/vocabscan/WordEdges" "character" "[B" := slot_ne (Or.inl (hw _ (List.mem_of_getElem? (i := 17) rfl))) (Or.inr (hw _ (List.mem_of_getElem? (i := 24) rfl))) (by decide) (t := (.array .byte)) (t' := (.array .byte)) (by decide) (by decide)
theorem own_sn_WordEdges_behind_character {Z : State} {a0 : Array Value} (hw : ∀ d ∈ tables_1, d.before a0 Z = true) : Jvm.RoadKit.slotOf Z "com/example/vocab_scan/vocabscan/WordEdges" "behind" "J" ≠ Jvm.RoadKit.slotOf Z "com/example/vocab_scan/vocabscan/WordEdges" "character" "[B" := slot_ne (Or.inl (hw _ (List.mem_of_getElem? (i := 20) rfl))) (Or.inr (hw _ (List.mem_of_getElem? (i := 24) rfl))) (by decide) (t := .long) (t' := (.array .byte)) (by decide) (by decide)
theorem own_sn_WordEdges_handing_character {Z : State} {a0 : Array Value} (hw : ∀ d ∈ tables_1, d.before a0 Z = true) : Jvm.RoadKit.slotOf Z "com/example/vocab_scan/vocabscan/WordEdges" "handing" "[B" ≠ Jvm.RoadKit.slotOf Z "com/example/vocab_scan/vocabscan/WordEdges" "character" "[B" := slot_ne (Or.inl (hw _ (List.mem_of_getElem? (i := 22) rfl))) (Or.inr (hw _ (List.mem_of_getElem? (i := 24) rfl))) (by decide) (t := (.array .byte)) (t' := (.array .byte)) (by decide) (by decide)
theorem own_sn_WordEdges_walk_character {Z : State} {a0 : Array Value} (hw : ∀ d ∈ tables_1, d.before a0 Z = true) : Jvm.RoadKit.slotOf Z "com/example/vocab_scan/vocabscan/WordEdges" "walk" "Lcom/example/vocab_scan/vocabscan/Walk;" ≠ Jvm.RoadKit.slotOf Z "com/example/vocab_scan/vocabscan/WordEdges" "character" "[B" := slot_ne (Or.inl (hw _ (List.mem_of_getElem? (i := 31) rfl))) (Or.inr (hw _ (List.mem_of_getElem? (i := 24) rfl))) (by decide) (t := (.object "com/example/vocab_scan/vocabscan/Walk")) (t' := (.array .byte)) (by decide) (by decide)
theorem own_sn_WordEdges_received_character {Z : State} {a0 : Array Value} (hw : ∀ d ∈ tables_1, d.before a0 Z = true) : Jvm.RoadKit.slotOf Z "com/example/vocab_scan/vocabscan/WordEdges" "received" "J" ≠ Jvm.RoadKit.slotOf Z "com/example/vocab_scan/vocabscan/WordEdges" "character" "[B" := slot_ne (Or.inl (hw _ (List.mem_of_getElem? (i := 48) rfl))) (Or.inr (hw _ (List.mem_of_getElem? (i := 24) rfl))) (by decide) (t := .long) (t' := (.array .byte)) (by decide) (by decide)
theorem own_sn_WordEdges_handed_character {Z : State} {a0 : Array Value} (hw : ∀ d ∈ tables_1, d.before a0 Z = true) : Jvm.RoadKit.slotOf Z "com/example/vocab_scan/vocabscan/WordEdges" "handed" "J" ≠ Jvm.RoadKit.slotOf Z "com/example/vocab_scan/vocabscan/WordEdges" "character" "[B" := slot_ne (Or.inl (hw _ (List.mem_of_getElem? (i := 42) rfl))) (Or.inr (hw _ (List.mem_of_getElem? (i := 24) rfl))) (by decide) (t := .long) (t' := (.array .byte)) (by decide) (by decide)
theorem own_dI_0 : decode prog_95_method_1_code 0 = .ok (.aload_n 0, 1) := by decide +kernel
theorem own_dI_1 : decode prog_95_method_1_code 1 = .ok (.invokespecial 1, 3) := by decide +kernel
theorem own_dI_4 : decode prog_95_method_1_code 4 = .ok (.aload_n 0, 1) := by decide +kernel
theorem own_dI_5 : decode prog_95_method_1_code 5 = .ok (.bipush 16, 2) := by decide +kernel
theorem own_dI_7 : decode prog_95_method_1_code 7 = .ok (.newarray .byte, 2) := by decide +kernel
theorem own_dI_9 : decode prog_95_method_1_code 9 = .ok (.putfield 7, 3) := by decide +kernel
theorem own_dI_12 : decode prog_95_method_1_code 12 = .ok (.aload_n 0, 1) := by decide +kernel
theorem own_dI_13 : decode prog_95_method_1_code 13 = .ok (.ldc2_w 13, 3) := by decide +kernel
theorem own_dI_16 : decode prog_95_method_1_code 16 = .ok (.putfield 15, 3) := by decide +kernel
theorem own_dI_19 : decode prog_95_method_1_code 19 = .ok (.aload_n 0, 1) := by decide +kernel
theorem own_dI_20 : decode prog_95_method_1_code 20 = .ok (.bipush 16, 2) := by decide +kernel
theorem own_dI_22 : decode prog_95_method_1_code 22 = .ok (.newarray .byte, 2) := by decide +kernel
theorem own_dI_24 : decode prog_95_method_1_code 24 = .ok (.putfield 19, 3) := by decide +kernel
theorem own_dI_27 : decode prog_95_method_1_code 27 = .ok (.aload_n 0, 1) := by decide +kernel
theorem own_dI_28 : decode prog_95_method_1_code 28 = .ok (.iconst 4, 1) := by decide +kernel
theorem own_dI_29 : decode prog_95_method_1_code 29 = .ok (.newarray .byte, 2) := by decide +kernel
theorem own_dI_31 : decode prog_95_method_1_code 31 = .ok (.putfield 22, 3) := by decide +kernel
theorem own_dI_34 : decode prog_95_method_1_code 34 = .ok (.return_, 1) := by decide +kernel
theorem own_pn_own_inC : plainFor (⟨"com/example/vocab_scan/vocabscan/WordEdges", "<init>", "()V"⟩ : MethodName) = true := plainFor_of_name (show plainName "com/example/vocab_scan/vocabscan/WordEdges" = true by first | (simp [plainName, overriddenIn]; done) | decide +kernel)
set_option maxRecDepth 65536 in
set_option maxHeartbeats 40000000 in
theorem own_inC (l : Launch) (Z : State) (a0 : Array Value) (hw : ∀ d ∈ tables_1, d.before a0 Z = true) (ws : List Jvm.Cond) (h0 : Heap) (n0 : Nat) (Z0 : n0 ≤ h0.size) (o : Addr) (g_o : n0 ≤ o) (E_o : Exa Z h0 o "com/example/vocab_scan/vocabscan/WordEdges") (F_ring : Fld Z h0 o "com/example/vocab_scan/vocabscan/WordEdges" "ring" "[B" .null) (F_behind : Fld Z h0 o "com/example/vocab_scan/vocabscan/WordEdges" "behind" "J" (.long (0 : Int64))) (F_handing : Fld Z h0 o "com/example/vocab_scan/vocabscan/WordEdges" "handing" "[B" .null) (F_walk : Fld Z h0 o "com/example/vocab_scan/vocabscan/WordEdges" "walk" "Lcom/example/vocab_scan/vocabscan/Walk;" .null) (F_received : Fld Z h0 o "com/example/vocab_scan/vocabscan/WordEdges" "received" "J" (.long (0 : Int64))) (F_handed : Fld Z h0 o "com/example/vocab_scan/vocabscan/WordEdges" "handed" "J" (.long (0 : Int64))) (F_character : Fld Z h0 o "com/example/vocab_scan/vocabscan/WordEdges" "character" "[B" .null)  :
    own_C l Z (⟨"com/example/vocab_scan/vocabscan/WordEdges", "<init>", "()V"⟩ : MethodName) prog_95_method_1_code 1 none ws ({ frames := 1, cells := 3, slots := 36, locals := 12 } : Room) #[(.ref o)] h0 (own_Q n0 (fun v h => v = none ∧ n0 ≤ h.size ∧ Keep h0 h [o] ∧ ∃ ra ha : Addr, (n0 ≤ ra ∧ h0.size ≤ ra ∧ n0 ≤ ha ∧ h0.size ≤ ha ∧ ra ≠ ha ∧ o ≠ ra ∧ o ≠ ha) ∧ own_W Z h o ra ha .null 0 0 ∧ own_B Z h ra 16 (fun _ => 0) ∧ own_B Z h ha 16 (fun _ => 0))) := by
  refine own_met own_pn_own_inC #[rv o] (fun m => by first | (simp [entryFrame, mkF, argsToLocals, Value.category]; done) | rfl) ?_
  intro p e s m below meth c s₁ hx hby hml hown hret hlk hZ hnm X0 e0
  replace X0 := own_S.of X0 (n0)
  have hn : n0 ≤ h0.size := Z0
  have hK := Keep.refl h0 [o]
  refine own_gs 1 [(.ref o)] (fun t' k => XS.aloadN X0.here hx rfl (hb hby own_dI_0) rfl rfl  k) ?_
  refine X0.initO hx hZ hown (hw _ (List.mem_of_getElem? (i := 13) rfl)) (hw _ (List.mem_of_getElem? (i := 14) rfl)) (hw _ (List.mem_of_getElem? (i := 15) rfl)) e0 (by rw [hml]; rfl) (hb hby own_dI_1) (by decide) 0 (Nat.le_of_eq rfl) (by decide) ?_
  intro T1 X1 e1
  refine own_gs 5 [(.ref o)] (fun t' k => XS.aloadN X1.here hx rfl (hb hby own_dI_4) rfl rfl  k) ?_
  refine own_gs 7 [(.int (16 : Int32)), (.ref o)] (fun t' k => XS.bipush X1.here hx rfl (hb hby own_dI_5) k) ?_
  refine X1.newP hx hZ (hw _ (List.mem_of_getElem? (i := 1) rfl)) e1 16 (by decide) (hb hby own_dI_7) 16 (by decide) (by decide) (by decide) (by decide) ?_
  intro T2 h2 b2 X2 e2 q2 xt2 A_b2
  have g_b2 : n0 ≤ b2 := by rw [q2]; exact hn
  have sz_b2 : h0.size ≤ b2 := by rw [q2]; exact hK.1
  replace hK := hK.ext xt2
  have lt_o_b2 : o < b2 := by rw [q2]; exact E_o.lt
  replace E_o := E_o.ext xt2
  replace F_ring := F_ring.ext xt2
  replace F_behind := F_behind.ext xt2
  replace F_handing := F_handing.ext xt2
  replace F_walk := F_walk.ext xt2
  replace F_received := F_received.ext xt2
  replace F_handed := F_handed.ext xt2
  replace F_character := F_character.ext xt2
  replace hn := Nat.le_trans hn xt2.1
  replace A_b2 : own_B Z h2 b2 16 (fun _ => 0) := own_B.new A_b2
  refine X2.putF hx hZ hown (hw _ (List.mem_of_getElem? (i := 16) rfl)) e2 F_ring E_o g_o (Or.inl (hw _ (List.mem_of_getElem? (i := 17) rfl))) (hw _ (List.mem_of_getElem? (i := 8) rfl)) (ty := (.array .byte)) (by decide) rfl rfl (hb hby own_dI_9) ?_
  intro T3 h3 X3 e3 W3
  replace E_o := E_o.wr W3
  replace F_ring := F_ring.same W3
  replace F_behind := F_behind.other W3 (Or.inr (own_sn_WordEdges_behind_ring hw))
  replace F_handing := F_handing.other W3 (Or.inr (own_sn_WordEdges_handing_ring hw))
  replace F_walk := F_walk.other W3 (Or.inr (own_sn_WordEdges_walk_ring hw))
  replace F_received := F_received.other W3 (Or.inr (own_sn_WordEdges_received_ring hw))
  replace F_handed := F_handed.other W3 (Or.inr (own_sn_WordEdges_handed_ring hw))
  replace F_character := F_character.other W3 (Or.inr (own_sn_WordEdges_character_ring hw))
  replace A_b2 := A_b2.other W3 (Ne.symm (Nat.ne_of_lt lt_o_b2))
  replace hn := Nat.le_trans hn (Keep.of_wr W3).1
  replace hK := hK.wr W3 (Or.inl (List.mem_of_getElem? (i := 0) rfl))
  clear W3 X2 e2
  refine own_gs 13 [(.ref o)] (fun t' k => XS.aloadN X3.here hx rfl (hb hby own_dI_12) rfl rfl  k) ?_
  refine own_gs 16 [(.long (4 : Int64)), (.ref o)] (fun t' k => X3.ldc2Long hx hown (mvT hZ (hw _ (List.mem_of_getElem? (i := 18) rfl))) (g := (mkF m 13 #[rv o] [(.ref o)])) rfl (hb hby own_dI_13) _ k) ?_
  refine X3.putF hx hZ hown (hw _ (List.mem_of_getElem? (i := 19) rfl)) e3 F_behind E_o g_o (Or.inl (hw _ (List.mem_of_getElem? (i := 20) rfl))) (hw _ (List.mem_of_getElem? (i := 8) rfl)) (ty := .long) (by decide) rfl rfl (hb hby own_dI_16) ?_
  intro T4 h4 X4 e4 W4
  replace E_o := E_o.wr W4
  replace F_ring := F_ring.other W4 (Or.inr (own_sn_WordEdges_ring_behind hw))
  replace F_behind := F_behind.same W4
  replace F_handing := F_handing.other W4 (Or.inr (own_sn_WordEdges_handing_behind hw))
  replace F_walk := F_walk.other W4 (Or.inr (own_sn_WordEdges_walk_behind hw))
  replace F_received := F_received.other W4 (Or.inr (own_sn_WordEdges_received_behind hw))
  replace F_handed := F_handed.other W4 (Or.inr (own_sn_WordEdges_handed_behind hw))
  replace F_character := F_character.other W4 (Or.inr (own_sn_WordEdges_character_behind hw))
  replace A_b2 := A_b2.other W4 (Ne.symm (Nat.ne_of_lt lt_o_b2))
  replace hn := Nat.le_trans hn (Keep.of_wr W4).1
  replace hK := hK.wr W4 (Or.inl (List.mem_of_getElem? (i := 0) rfl))
  clear W4 X3 e3
  refine own_gs 20 [(.ref o)] (fun t' k => XS.aloadN X4.here hx rfl (hb hby own_dI_19) rfl rfl  k) ?_
  refine own_gs 22 [(.int (16 : Int32)), (.ref o)] (fun t' k => XS.bipush X4.here hx rfl (hb hby own_dI_20) k) ?_
  refine X4.newP hx hZ (hw _ (List.mem_of_getElem? (i := 1) rfl)) e4 16 (by decide) (hb hby own_dI_22) 16 (by decide) (by decide) (by decide) (by decide) ?_
  intro T5 h5 b5 X5 e5 q5 xt5 A_b5
  have g_b5 : n0 ≤ b5 := by rw [q5]; exact hn
  have sz_b5 : h0.size ≤ b5 := by rw [q5]; exact hK.1
  replace hK := hK.ext xt5
  have lt_o_b5 : o < b5 := by rw [q5]; exact E_o.lt
  have lt_b2_b5 : b2 < b5 := by rw [q5]; exact A_b2.lt
  replace E_o := E_o.ext xt5
  replace F_ring := F_ring.ext xt5
  replace F_behind := F_behind.ext xt5
  replace F_handing := F_handing.ext xt5
  replace F_walk := F_walk.ext xt5
  replace F_received := F_received.ext xt5
  replace F_handed := F_handed.ext xt5
  replace F_character := F_character.ext xt5
  replace A_b2 := A_b2.ext xt5
  replace hn := Nat.le_trans hn xt5.1
  replace A_b5 : own_B Z h5 b5 16 (fun _ => 0) := own_B.new A_b5
  refine X5.putF hx hZ hown (hw _ (List.mem_of_getElem? (i := 21) rfl)) e5 F_handing E_o g_o (Or.inl (hw _ (List.mem_of_getElem? (i := 22) rfl))) (hw _ (List.mem_of_getElem? (i := 8) rfl)) (ty := (.array .byte)) (by decide) rfl rfl (hb hby own_dI_24) ?_
  intro T6 h6 X6 e6 W6
  replace E_o := E_o.wr W6
  replace F_ring := F_ring.other W6 (Or.inr (own_sn_WordEdges_ring_handing hw))
  replace F_behind := F_behind.other W6 (Or.inr (own_sn_WordEdges_behind_handing hw))
  replace F_handing := F_handing.same W6
  replace F_walk := F_walk.other W6 (Or.inr (own_sn_WordEdges_walk_handing hw))
  replace F_received := F_received.other W6 (Or.inr (own_sn_WordEdges_received_handing hw))
  replace F_handed := F_handed.other W6 (Or.inr (own_sn_WordEdges_handed_handing hw))
  replace F_character := F_character.other W6 (Or.inr (own_sn_WordEdges_character_handing hw))
  replace A_b2 := A_b2.other W6 (Ne.symm (Nat.ne_of_lt lt_o_b2))
  replace A_b5 := A_b5.other W6 (Ne.symm (Nat.ne_of_lt lt_o_b5))
  replace hn := Nat.le_trans hn (Keep.of_wr W6).1
  replace hK := hK.wr W6 (Or.inl (List.mem_of_getElem? (i := 0) rfl))
  clear W6 X5 e5
  refine own_gs 28 [(.ref o)] (fun t' k => XS.aloadN X6.here hx rfl (hb hby own_dI_27) rfl rfl  k) ?_
  refine own_gs 29 [(.int (4 : Int32)), (.ref o)] (fun t' k => XS.iconst X6.here hx rfl (hb hby own_dI_28) k) ?_
  refine X6.newP hx hZ (hw _ (List.mem_of_getElem? (i := 1) rfl)) e6 4 (by decide) (hb hby own_dI_29) 4 (by decide) (by decide) (by decide) (by decide) ?_
  intro T7 h7 b7 X7 e7 q7 xt7 A_b7
  have g_b7 : n0 ≤ b7 := by rw [q7]; exact hn
  have sz_b7 : h0.size ≤ b7 := by rw [q7]; exact hK.1
  replace hK := hK.ext xt7
  have lt_o_b7 : o < b7 := by rw [q7]; exact E_o.lt
  have lt_b2_b7 : b2 < b7 := by rw [q7]; exact A_b2.lt
  have lt_b5_b7 : b5 < b7 := by rw [q7]; exact A_b5.lt
  replace E_o := E_o.ext xt7
  replace F_ring := F_ring.ext xt7
  replace F_behind := F_behind.ext xt7
  replace F_handing := F_handing.ext xt7
  replace F_walk := F_walk.ext xt7
  replace F_received := F_received.ext xt7
  replace F_handed := F_handed.ext xt7
  replace F_character := F_character.ext xt7
  replace A_b2 := A_b2.ext xt7
  replace A_b5 := A_b5.ext xt7
  replace hn := Nat.le_trans hn xt7.1
  replace A_b7 : own_B Z h7 b7 4 (fun _ => 0) := own_B.new A_b7
  refine X7.putF hx hZ hown (hw _ (List.mem_of_getElem? (i := 23) rfl)) e7 F_character E_o g_o (Or.inr ⟨(hw _ (List.mem_of_getElem? (i := 24) rfl)), rfl, hnm⟩) (hw _ (List.mem_of_getElem? (i := 8) rfl)) (ty := (.array .byte)) (by decide) rfl rfl (hb hby own_dI_31) ?_
  intro T8 h8 X8 e8 W8
  replace E_o := E_o.wr W8
  replace F_ring := F_ring.other W8 (Or.inr (own_sn_WordEdges_ring_character hw))
  replace F_behind := F_behind.other W8 (Or.inr (own_sn_WordEdges_behind_character hw))
  replace F_handing := F_handing.other W8 (Or.inr (own_sn_WordEdges_handing_character hw))
  replace F_walk := F_walk.other W8 (Or.inr (own_sn_WordEdges_walk_character hw))
  replace F_received := F_received.other W8 (Or.inr (own_sn_WordEdges_received_character hw))
  replace F_handed := F_handed.other W8 (Or.inr (own_sn_WordEdges_handed_character hw))
  replace F_character := F_character.same W8
  replace A_b2 := A_b2.other W8 (Ne.symm (Nat.ne_of_lt lt_o_b2))
  replace A_b5 := A_b5.other W8 (Ne.symm (Nat.ne_of_lt lt_o_b5))
  replace A_b7 := A_b7.other W8 (Ne.symm (Nat.ne_of_lt lt_o_b7))
  replace hn := Nat.le_trans hn (Keep.of_wr W8).1
  replace hK := hK.wr W8 (Or.inl (List.mem_of_getElem? (i := 0) rfl))
  clear W8 X7 e7
  refine X8.retV hx hlk hret (hb hby own_dI_34) ?_ (by decide) (by decide)
  rw [e8]
  exact ⟨rfl, hn, hK, b2, b5, ⟨g_b2, sz_b2, g_b5, sz_b5, (Nat.ne_of_lt lt_b2_b5), (Nat.ne_of_lt lt_o_b2), (Nat.ne_of_lt lt_o_b5)⟩, ⟨E_o, F_ring, F_behind, F_handing, F_walk, F_received, F_handed⟩, A_b2, A_b5⟩

theorem own_sn_WordEdges_ring_walk {Z : State} {a0 : Array Value} (hw : ∀ d ∈ tables_1, d.before a0 Z = true) : Jvm.RoadKit.slotOf Z "com/example/vocab_scan/vocabscan/WordEdges" "ring" "[B" ≠ Jvm.RoadKit.slotOf Z "com/example/vocab_scan/vocabscan/WordEdges" "walk" "Lcom/example/vocab_scan/vocabscan/Walk;" := slot_ne (Or.inl (hw _ (List.mem_of_getElem? (i := 17) rfl))) (Or.inl (hw _ (List.mem_of_getElem? (i := 31) rfl))) (by decide) (t := (.array .byte)) (t' := (.object "com/example/vocab_scan/vocabscan/Walk")) (by decide) (by decide)
theorem own_sn_WordEdges_behind_walk {Z : State} {a0 : Array Value} (hw : ∀ d ∈ tables_1, d.before a0 Z = true) : Jvm.RoadKit.slotOf Z "com/example/vocab_scan/vocabscan/WordEdges" "behind" "J" ≠ Jvm.RoadKit.slotOf Z "com/example/vocab_scan/vocabscan/WordEdges" "walk" "Lcom/example/vocab_scan/vocabscan/Walk;" := slot_ne (Or.inl (hw _ (List.mem_of_getElem? (i := 20) rfl))) (Or.inl (hw _ (List.mem_of_getElem? (i := 31) rfl))) (by decide) (t := .long) (t' := (.object "com/example/vocab_scan/vocabscan/Walk")) (by decide) (by decide)
theorem own_sn_WordEdges_handing_walk {Z : State} {a0 : Array Value} (hw : ∀ d ∈ tables_1, d.before a0 Z = true) : Jvm.RoadKit.slotOf Z "com/example/vocab_scan/vocabscan/WordEdges" "handing" "[B" ≠ Jvm.RoadKit.slotOf Z "com/example/vocab_scan/vocabscan/WordEdges" "walk" "Lcom/example/vocab_scan/vocabscan/Walk;" := slot_ne (Or.inl (hw _ (List.mem_of_getElem? (i := 22) rfl))) (Or.inl (hw _ (List.mem_of_getElem? (i := 31) rfl))) (by decide) (t := (.array .byte)) (t' := (.object "com/example/vocab_scan/vocabscan/Walk")) (by decide) (by decide)
theorem own_sn_WordEdges_received_walk {Z : State} {a0 : Array Value} (hw : ∀ d ∈ tables_1, d.before a0 Z = true) : Jvm.RoadKit.slotOf Z "com/example/vocab_scan/vocabscan/WordEdges" "received" "J" ≠ Jvm.RoadKit.slotOf Z "com/example/vocab_scan/vocabscan/WordEdges" "walk" "Lcom/example/vocab_scan/vocabscan/Walk;" := slot_ne (Or.inl (hw _ (List.mem_of_getElem? (i := 48) rfl))) (Or.inl (hw _ (List.mem_of_getElem? (i := 31) rfl))) (by decide) (t := .long) (t' := (.object "com/example/vocab_scan/vocabscan/Walk")) (by decide) (by decide)
theorem own_sn_WordEdges_handed_walk {Z : State} {a0 : Array Value} (hw : ∀ d ∈ tables_1, d.before a0 Z = true) : Jvm.RoadKit.slotOf Z "com/example/vocab_scan/vocabscan/WordEdges" "handed" "J" ≠ Jvm.RoadKit.slotOf Z "com/example/vocab_scan/vocabscan/WordEdges" "walk" "Lcom/example/vocab_scan/vocabscan/Walk;" := slot_ne (Or.inl (hw _ (List.mem_of_getElem? (i := 42) rfl))) (Or.inl (hw _ (List.mem_of_getElem? (i := 31) rfl))) (by decide) (t := .long) (t' := (.object "com/example/vocab_scan/vocabscan/Walk")) (by decide) (by decide)
theorem own_dL_0 : decode prog_95_method_3_code 0 = .ok (.aload_n 0, 1) := by decide +kernel
theorem own_dL_1 : decode prog_95_method_3_code 1 = .ok (.aload_n 1, 1) := by decide +kernel
theorem own_dL_2 : decode prog_95_method_3_code 2 = .ok (.putfield 35, 3) := by decide +kernel
theorem own_dL_5 : decode prog_95_method_3_code 5 = .ok (.aload_n 0, 1) := by decide +kernel
theorem own_dL_6 : decode prog_95_method_3_code 6 = .ok (.areturn, 1) := by decide +kernel
theorem own_pn_own_laC : plainFor (⟨"com/example/vocab_scan/vocabscan/WordEdges", "lagging", "(Lcom/example/vocab_scan/vocabscan/Walk;)Lcom/example/vocab_scan/vocabscan/Walk;"⟩ : MethodName) = true := plainFor_of_name (show plainName "com/example/vocab_scan/vocabscan/WordEdges" = true by first | (simp [plainName, overriddenIn]; done) | decide +kernel)
set_option maxRecDepth 65536 in
set_option maxHeartbeats 40000000 in
theorem own_laC (l : Launch) (Z : State) (a0 : Array Value) (hw : ∀ d ∈ tables_1, d.before a0 Z = true) (ws : List Jvm.Cond) (h0 : Heap) (n0 : Nat) (Z0 : n0 ≤ h0.size) (o nx ra ha : Addr) (g_o : n0 ≤ o) (HW : own_W Z h0 o ra ha .null 0 0)  :
    own_C l Z (⟨"com/example/vocab_scan/vocabscan/WordEdges", "lagging", "(Lcom/example/vocab_scan/vocabscan/Walk;)Lcom/example/vocab_scan/vocabscan/Walk;"⟩ : MethodName) prog_95_method_3_code 2 (some (.object "com/example/vocab_scan/vocabscan/Walk")) ws ({ frames := 0, cells := 0, slots := 0, locals := 0 } : Room) #[(.ref o), (.ref nx)] h0 (own_Q n0 (fun v h => v = some (.ref o) ∧ n0 ≤ h.size ∧ Keep h0 h [o] ∧ own_W Z h o ra ha (.ref nx) 0 0)) := by
  refine own_met own_pn_own_laC #[rv o, rv nx] (fun m => by first | (simp [entryFrame, mkF, argsToLocals, Value.category]; done) | rfl) ?_
  intro p e s m below meth c s₁ hx hby hml hown hret hlk hZ hnm X0 e0
  replace X0 := own_S.of X0 (n0)
  have hn : n0 ≤ h0.size := Z0
  have hK := Keep.refl h0 [o]
  obtain ⟨E_o, F_ring, F_behind, F_handing, F_walk, F_received, F_handed⟩ := HW
  refine own_gs 1 [(.ref o)] (fun t' k => XS.aloadN X0.here hx rfl (hb hby own_dL_0) rfl rfl  k) ?_
  refine own_gs 2 [(.ref nx), (.ref o)] (fun t' k => XS.aloadN X0.here hx rfl (hb hby own_dL_1) rfl rfl  k) ?_
  refine X0.putF hx hZ hown (hw _ (List.mem_of_getElem? (i := 30) rfl)) e0 F_walk E_o g_o (Or.inl (hw _ (List.mem_of_getElem? (i := 31) rfl))) (hw _ (List.mem_of_getElem? (i := 8) rfl)) (ty := (.object "com/example/vocab_scan/vocabscan/Walk")) (by decide) rfl rfl (hb hby own_dL_2) ?_
  intro T1 h1 X1 e1 W1
  replace E_o := E_o.wr W1
  replace F_ring := F_ring.other W1 (Or.inr (own_sn_WordEdges_ring_walk hw))
  replace F_behind := F_behind.other W1 (Or.inr (own_sn_WordEdges_behind_walk hw))
  replace F_handing := F_handing.other W1 (Or.inr (own_sn_WordEdges_handing_walk hw))
  replace F_walk := F_walk.same W1
  replace F_received := F_received.other W1 (Or.inr (own_sn_WordEdges_received_walk hw))
  replace F_handed := F_handed.other W1 (Or.inr (own_sn_WordEdges_handed_walk hw))
  replace hn := Nat.le_trans hn (Keep.of_wr W1).1
  replace hK := hK.wr W1 (Or.inl (List.mem_of_getElem? (i := 0) rfl))
  clear W1 X0 e0
  refine own_gs 6 [(.ref o)] (fun t' k => XS.aloadN X1.here hx rfl (hb hby own_dL_5) rfl rfl  k) ?_
  refine X1.retA hx hlk hret rfl rfl (hb hby own_dL_6) ?_ (by decide) (by decide)
  rw [e1]
  exact ⟨rfl, hn, hK, ⟨E_o, F_ring, F_behind, F_handing, F_walk, F_received, F_handed⟩⟩

theorem own_dS_0 : decode prog_95_method_22_code 0 = .ok (.lload_n 1, 1) := by decide +kernel
theorem own_dS_1 : decode prog_95_method_22_code 1 = .ok (.l2i, 1) := by decide +kernel
theorem own_dS_2 : decode prog_95_method_22_code 2 = .ok (.aload_n 0, 1) := by decide +kernel
theorem own_dS_3 : decode prog_95_method_22_code 3 = .ok (.getfield 7, 3) := by decide +kernel
theorem own_dS_6 : decode prog_95_method_22_code 6 = .ok (.arraylength, 1) := by decide +kernel
theorem own_dS_7 : decode prog_95_method_22_code 7 = .ok (.iconst 1, 1) := by decide +kernel
theorem own_dS_8 : decode prog_95_method_22_code 8 = .ok (.isub, 1) := by decide +kernel
theorem own_dS_9 : decode prog_95_method_22_code 9 = .ok (.iand, 1) := by decide +kernel
theorem own_dS_10 : decode prog_95_method_22_code 10 = .ok (.ireturn, 1) := by decide +kernel
theorem own_pn_own_slC : plainFor (⟨"com/example/vocab_scan/vocabscan/WordEdges", "slot", "(J)I"⟩ : MethodName) = true := plainFor_of_name (show plainName "com/example/vocab_scan/vocabscan/WordEdges" = true by first | (simp [plainName, overriddenIn]; done) | decide +kernel)
set_option maxRecDepth 65536 in
set_option maxHeartbeats 40000000 in
theorem own_slC (l : Launch) (Z : State) (a0 : Array Value) (hw : ∀ d ∈ tables_1, d.before a0 Z = true) (ws : List Jvm.Cond) (h0 : Heap) (n0 : Nat) (Z0 : n0 ≤ h0.size) (o ra : Addr) (f : Nat → Int32) (x : Int64) (F_ring : Fld Z h0 o "com/example/vocab_scan/vocabscan/WordEdges" "ring" "[B" (.ref ra)) (A_ra : own_B Z h0 ra 16 f)  :
    own_C l Z (⟨"com/example/vocab_scan/vocabscan/WordEdges", "slot", "(J)I"⟩ : MethodName) prog_95_method_22_code 3 (some .int) ws ({ frames := 0, cells := 0, slots := 0, locals := 0 } : Room) #[(.ref o), (.long x)] h0 (own_Q n0 (fun v h => v = some (.int (x.toInt32 &&& (15 : Int32))) ∧ h = h0)) := by
  refine own_met own_pn_own_slC #[rv o, jv x, .second] (fun m => by first | (simp [entryFrame, mkF, argsToLocals, Value.category]; done) | rfl) ?_
  intro p e s m below meth c s₁ hx hby hml hown hret hlk hZ hnm X0 e0
  replace X0 := own_S.of X0 (n0)
  have hn : n0 ≤ h0.size := Z0
  refine own_gs 1 [(.long x)] (fun t' k => XS.lloadN X0.here hx rfl (hb hby own_dS_0) rfl  k) ?_
  refine own_gs 2 [(.int (x.toInt32))] (fun t' k => XS.l2i X0.here hx rfl (hb hby own_dS_1) rfl k) ?_
  refine own_gs 3 [(.ref o), (.int (x.toInt32))] (fun t' k => XS.aloadN X0.here hx rfl (hb hby own_dS_2) rfl rfl  k) ?_
  refine X0.getF hx hZ hown (hw _ (List.mem_of_getElem? (i := 16) rfl)) e0 F_ring (hb hby own_dS_3) ?_
  intro T1 X1 e1
  refine X1.alenB hx hZ e1 A_ra (hb hby own_dS_6) ?_
  show own_G p e below s _ _ _ T1 (mkF m 7 #[rv o, jv x, .second] [(.int (16 : Int32)), (.int (x.toInt32))])
  refine own_gs 8 [(.int (1 : Int32)), (.int (16 : Int32)), (.int (x.toInt32))] (fun t' k => XS.iconst X1.here hx rfl (hb hby own_dS_7) k) ?_
  refine own_gs 9 [(.int (15 : Int32)), (.int (x.toInt32))] (fun t' k => XS.isub X1.here hx rfl (hb hby own_dS_8) rfl k) ?_
  refine own_gs 10 [(.int ((x.toInt32) &&& (15 : Int32)))] (fun t' k => XS.iand X1.here hx rfl (hb hby own_dS_9) rfl k) ?_
  refine X1.retI hx hlk hret (hb hby own_dS_10) ?_ (by decide) (by decide)
  exact ⟨rfl, e1⟩


theorem own_need {rcv : Int64} {q : Int32} {r qn : Nat} (hr : rcv.toInt = r) (hq : q.toInt = qn) (h : r + qn ≤ 8) : ¬ (16 : Int64) < (rcv - (0 : Int64)) + q.toInt64 := by
  have e0 : (0 : Int64).toInt = 0 := rfl
  have e16 : (16 : Int64).toInt = 16 := rfl
  have k1 : (rcv - (0 : Int64)).toInt = rcv.toInt := by rw [Jvm.Kit.i64_sub (by omega) (by omega), e0]; omega
  have k2 : ((rcv - (0 : Int64)) + q.toInt64).toInt = rcv.toInt + q.toInt := by rw [Jvm.Kit.i64_add (by rw [Int32.toInt_toInt64]; omega) (by rw [Int32.toInt_toInt64]; omega), k1, Int32.toInt_toInt64]
  rw [Int64.lt_iff_toInt_lt, e16, k2]; omega

theorem own_dM_0 : decode prog_95_method_14_code 0 = .ok (.lconst 0, 1) := by decide +kernel
theorem own_dM_1 : decode prog_95_method_14_code 1 = .ok (.aload_n 0, 1) := by decide +kernel
theorem own_dM_2 : decode prog_95_method_14_code 2 = .ok (.getfield 48, 3) := by decide +kernel
theorem own_dM_5 : decode prog_95_method_14_code 5 = .ok (.aload_n 0, 1) := by decide +kernel
theorem own_dM_6 : decode prog_95_method_14_code 6 = .ok (.getfield 15, 3) := by decide +kernel
theorem own_dM_9 : decode prog_95_method_14_code 9 = .ok (.lsub, 1) := by decide +kernel
theorem own_dM_10 : decode prog_95_method_14_code 10 = .ok (.invokestatic 39, 3) := by decide +kernel
theorem own_dM_13 : decode prog_95_method_14_code 13 = .ok (.lstore_n 2, 1) := by decide +kernel
theorem own_dM_14 : decode prog_95_method_14_code 14 = .ok (.aload_n 0, 1) := by decide +kernel
theorem own_dM_15 : decode prog_95_method_14_code 15 = .ok (.getfield 45, 3) := by decide +kernel
theorem own_dM_18 : decode prog_95_method_14_code 18 = .ok (.lload_n 2, 1) := by decide +kernel
theorem own_dM_19 : decode prog_95_method_14_code 19 = .ok (.lsub, 1) := by decide +kernel
theorem own_dM_20 : decode prog_95_method_14_code 20 = .ok (.iload_n 1, 1) := by decide +kernel
theorem own_dM_21 : decode prog_95_method_14_code 21 = .ok (.i2l, 1) := by decide +kernel
theorem own_dM_22 : decode prog_95_method_14_code 22 = .ok (.ladd, 1) := by decide +kernel
theorem own_dM_23 : decode prog_95_method_14_code 23 = .ok (.lstore 4, 2) := by decide +kernel
theorem own_dM_25 : decode prog_95_method_14_code 25 = .ok (.lload 4, 2) := by decide +kernel
theorem own_dM_27 : decode prog_95_method_14_code 27 = .ok (.aload_n 0, 1) := by decide +kernel
theorem own_dM_28 : decode prog_95_method_14_code 28 = .ok (.getfield 7, 3) := by decide +kernel
theorem own_dM_31 : decode prog_95_method_14_code 31 = .ok (.arraylength, 1) := by decide +kernel
theorem own_dM_32 : decode prog_95_method_14_code 32 = .ok (.i2l, 1) := by decide +kernel
theorem own_dM_33 : decode prog_95_method_14_code 33 = .ok (.lcmp, 1) := by decide +kernel
theorem own_dM_34 : decode prog_95_method_14_code 34 = .ok (.ifCond .le 87, 3) := by decide +kernel
theorem own_dM_121 : decode prog_95_method_14_code 121 = .ok (.return_, 1) := by decide +kernel
theorem own_pn_own_mrC : plainFor (⟨"com/example/vocab_scan/vocabscan/WordEdges", "makeRoom", "(I)V"⟩ : MethodName) = true := plainFor_of_name (show plainName "com/example/vocab_scan/vocabscan/WordEdges" = true by first | (simp [plainName, overriddenIn]; done) | decide +kernel)
set_option maxRecDepth 65536 in
set_option maxHeartbeats 40000000 in
theorem own_mrC (l : Launch) (Z : State) (a0 : Array Value) (hw : ∀ d ∈ tables_1, d.before a0 Z = true) (ws : List Jvm.Cond) (h0 : Heap) (n0 : Nat) (Z0 : n0 ≤ h0.size) (o ra ha : Addr) (wk : Value) (rcv : Int64) (r qn : Nat) (q : Int32) (f : Nat → Int32) (hr : rcv.toInt = r) (hq : q.toInt = qn) (hrq : r + qn ≤ 8) (HW : own_W Z h0 o ra ha wk rcv 0) (A_ra : own_B Z h0 ra 16 f)  :
    own_C l Z (⟨"com/example/vocab_scan/vocabscan/WordEdges", "makeRoom", "(I)V"⟩ : MethodName) prog_95_method_14_code 9 none ws ({ frames := 1, cells := 0, slots := 0, locals := 15 } : Room) #[(.ref o), (.int q)] h0 (own_Q n0 (fun v h => v = none ∧ h = h0)) := by
  refine own_met own_pn_own_mrC #[rv o, iv q, .unset, .unset, .unset, .unset, .unset, .unset, .unset] (fun m => by first | (simp [entryFrame, mkF, argsToLocals, Value.category]; done) | rfl) ?_
  intro p e s m below meth c s₁ hx hby hml hown hret hlk hZ hnm X0 e0
  replace X0 := own_S.of X0 (n0)
  have hn : n0 ≤ h0.size := Z0
  obtain ⟨E_o, F_ring, F_behind, F_handing, F_walk, F_received, F_handed⟩ := HW
  refine own_gs 1 [(.long (0 : Int64))] (fun t' k => XS.lconst X0.here hx rfl (hb hby own_dM_0) k) ?_
  refine own_gs 2 [(.ref o), (.long (0 : Int64))] (fun t' k => XS.aloadN X0.here hx rfl (hb hby own_dM_1) rfl rfl  k) ?_
  refine X0.getF hx hZ hown (hw _ (List.mem_of_getElem? (i := 41) rfl)) e0 F_handed (hb hby own_dM_2) ?_
  intro T1 X1 e1
  refine own_gs 6 [(.ref o), (.long (0 : Int64)), (.long (0 : Int64))] (fun t' k => XS.aloadN X1.here hx rfl (hb hby own_dM_5) rfl rfl  k) ?_
  refine X1.getF hx hZ hown (hw _ (List.mem_of_getElem? (i := 19) rfl)) e1 F_behind (hb hby own_dM_6) ?_
  intro T2 X2 e2
  refine own_gs 10 [(.long (-4 : Int64)), (.long (0 : Int64))] (fun t' k => XS.lsub X2.here hx rfl (hb hby own_dM_9) rfl k) ?_
  refine X2.callP hx hZ (y := (⟨"java/lang/Math", "max", "(JJ)J"⟩ : MethodName)) (fr := 0) (lo := 0) (r := (.long (own_max (0 : Int64) (-4 : Int64)))) hown (hw _ (List.mem_of_getElem? (i := 43) rfl)) (hw _ (List.mem_of_getElem? (i := 44) rfl)) (hw _ (List.mem_of_getElem? (i := 45) rfl)) (hw _ (List.mem_of_getElem? (i := 46) rfl)) (by decide) e2 [(.long (0 : Int64)), (.long (-4 : Int64))] [] (own_maxC l Z a0 hw [] h0 (0 : Int64) (-4 : Int64)) 0 (by decide) (by decide) (Nat.le_of_eq rfl) (by decide) (by decide) (by rw [hml]; rfl) (lenOf own_pd0 rfl) rfl (hb hby own_dM_10) ?_
  intro T3 X3 e3
  rw [own_max0]
  refine own_go (mkF m 14 #[rv o, iv q, jv (0 : Int64), .second, .unset, .unset, .unset, .unset, .unset] []) (fun t' k => XS.lstoreN X3.here hx rfl (hb hby own_dM_13) rfl rfl k) ?_
  refine own_gs 15 [(.ref o)] (fun t' k => XS.aloadN X3.here hx rfl (hb hby own_dM_14) rfl rfl  k) ?_
  refine X3.getF hx hZ hown (hw _ (List.mem_of_getElem? (i := 47) rfl)) e3 F_received (hb hby own_dM_15) ?_
  intro T4 X4 e4
  refine own_gs 19 [(.long (0 : Int64)), (.long rcv)] (fun t' k => XS.lloadN X4.here hx rfl (hb hby own_dM_18) rfl  k) ?_
  refine own_gs 20 [(.long (rcv - (0 : Int64)))] (fun t' k => XS.lsub X4.here hx rfl (hb hby own_dM_19) rfl k) ?_
  refine own_gs 21 [(.int q), (.long (rcv - (0 : Int64)))] (fun t' k => XS.iloadN X4.here hx rfl (hb hby own_dM_20) rfl  k) ?_
  refine own_gs 22 [(.long (q.toInt64)), (.long (rcv - (0 : Int64)))] (fun t' k => XS.i2l X4.here hx rfl (hb hby own_dM_21) rfl k) ?_
  refine own_gs 23 [(.long ((rcv - (0 : Int64)) + (q.toInt64)))] (fun t' k => XS.ladd X4.here hx rfl (hb hby own_dM_22) rfl k) ?_
  refine own_go (mkF m 25 #[rv o, iv q, jv (0 : Int64), .second, jv ((rcv - (0 : Int64)) + (q.toInt64)), .second, .unset, .unset, .unset] []) (fun t' k => XS.lstore X4.here hx rfl (hb hby own_dM_23) rfl rfl k) ?_
  refine own_gs 27 [(.long ((rcv - (0 : Int64)) + (q.toInt64)))] (fun t' k => XS.lload X4.here hx rfl (hb hby own_dM_25) rfl  k) ?_
  refine own_gs 28 [(.ref o), (.long ((rcv - (0 : Int64)) + (q.toInt64)))] (fun t' k => XS.aloadN X4.here hx rfl (hb hby own_dM_27) rfl rfl  k) ?_
  refine X4.getF hx hZ hown (hw _ (List.mem_of_getElem? (i := 16) rfl)) e4 F_ring (hb hby own_dM_28) ?_
  intro T5 X5 e5
  refine X5.alenB hx hZ e5 A_ra (hb hby own_dM_31) ?_
  show own_G p e below s _ _ _ T5 (mkF m 32 #[rv o, iv q, jv (0 : Int64), .second, jv ((rcv - (0 : Int64)) + (q.toInt64)), .second, .unset, .unset, .unset] [(.int (16 : Int32)), (.long ((rcv - (0 : Int64)) + (q.toInt64)))])
  refine own_gs 33 [(.long (16 : Int64)), (.long ((rcv - (0 : Int64)) + (q.toInt64)))] (fun t' k => XS.i2l X5.here hx rfl (hb hby own_dM_32) rfl k) ?_
  refine own_gs 34 [(.int (lcmpW ((rcv - (0 : Int64)) + (q.toInt64)) (16 : Int64)))] (fun t' k => XS.lcmp X5.here hx rfl (hb hby own_dM_33) rfl k) ?_
  refine own_gs 121 [] (fun t' k => XS.ifYes X5.here hx rfl (pc0 := 34) (pc' := 121) rfl (hb hby own_dM_34) rfl ((if0 _ _).trans (flt (fun q' => (own_need hr hq hrq) ((lw_gt ((rcv - (0 : Int64)) + (q.toInt64)) (16 : Int64)).mp q'))).2.2.2) (by decide) (by decide) k) ?_
  refine X5.retV hx hlk hret (hb hby own_dM_121) ?_ (by decide) (by decide)
  exact ⟨rfl, e5⟩

theorem own_dH_0 : decode prog_95_method_13_code 0 = .ok (.lload_n 1, 1) := by decide +kernel
theorem own_dH_1 : decode prog_95_method_13_code 1 = .ok (.aload_n 0, 1) := by decide +kernel
theorem own_dH_2 : decode prog_95_method_13_code 2 = .ok (.getfield 48, 3) := by decide +kernel
theorem own_dH_5 : decode prog_95_method_13_code 5 = .ok (.lcmp, 1) := by decide +kernel
theorem own_dH_6 : decode prog_95_method_13_code 6 = .ok (.ifCond .le 114, 3) := by decide +kernel
theorem own_dH_120 : decode prog_95_method_13_code 120 = .ok (.return_, 1) := by decide +kernel
theorem own_pn_own_h0C : plainFor (⟨"com/example/vocab_scan/vocabscan/WordEdges", "handOn", "(J)V"⟩ : MethodName) = true := plainFor_of_name (show plainName "com/example/vocab_scan/vocabscan/WordEdges" = true by first | (simp [plainName, overriddenIn]; done) | decide +kernel)
set_option maxRecDepth 65536 in
set_option maxHeartbeats 40000000 in
theorem own_h0C (l : Launch) (Z : State) (a0 : Array Value) (hw : ∀ d ∈ tables_1, d.before a0 Z = true) (ws : List Jvm.Cond) (h0 : Heap) (n0 : Nat) (Z0 : n0 ≤ h0.size) (o : Addr) (to : Int64) (ht : to.toInt ≤ 0) (F_handed : Fld Z h0 o "com/example/vocab_scan/vocabscan/WordEdges" "handed" "J" (.long (0 : Int64)))  :
    own_C l Z (⟨"com/example/vocab_scan/vocabscan/WordEdges", "handOn", "(J)V"⟩ : MethodName) prog_95_method_13_code 6 none ws ({ frames := 0, cells := 0, slots := 0, locals := 0 } : Room) #[(.ref o), (.long to)] h0 (own_Q n0 (fun v h => v = none ∧ h = h0)) := by
  refine own_met own_pn_own_h0C #[rv o, jv to, .second, .unset, .unset, .unset] (fun m => by first | (simp [entryFrame, mkF, argsToLocals, Value.category]; done) | rfl) ?_
  intro p e s m below meth c s₁ hx hby hml hown hret hlk hZ hnm X0 e0
  replace X0 := own_S.of X0 (n0)
  have hn : n0 ≤ h0.size := Z0
  refine own_gs 1 [(.long to)] (fun t' k => XS.lloadN X0.here hx rfl (hb hby own_dH_0) rfl  k) ?_
  refine own_gs 2 [(.ref o), (.long to)] (fun t' k => XS.aloadN X0.here hx rfl (hb hby own_dH_1) rfl rfl  k) ?_
  refine X0.getF hx hZ hown (hw _ (List.mem_of_getElem? (i := 41) rfl)) e0 F_handed (hb hby own_dH_2) ?_
  intro T1 X1 e1
  refine own_gs 6 [(.int (lcmpW to (0 : Int64)))] (fun t' k => XS.lcmp X1.here hx rfl (hb hby own_dH_5) rfl k) ?_
  refine own_gs 120 [] (fun t' k => XS.ifYes X1.here hx rfl (pc0 := 6) (pc' := 120) rfl (hb hby own_dH_6) rfl ((if0 _ _).trans (flt (fun q' => (show ¬ ((0 : Int64) < to) from by rw [Int64.lt_iff_toInt_lt]; have e0 : (0 : Int64).toInt = 0 := rfl; omega) ((lw_gt to (0 : Int64)).mp q'))).2.2.2) (by decide) (by decide) k) ?_
  refine X1.retV hx hlk hret (hb hby own_dH_120) ?_ (by decide) (by decide)
  exact ⟨rfl, e1⟩

theorem own_sn_WordEdges_ring_received {Z : State} {a0 : Array Value} (hw : ∀ d ∈ tables_1, d.before a0 Z = true) : Jvm.RoadKit.slotOf Z "com/example/vocab_scan/vocabscan/WordEdges" "ring" "[B" ≠ Jvm.RoadKit.slotOf Z "com/example/vocab_scan/vocabscan/WordEdges" "received" "J" := slot_ne (Or.inl (hw _ (List.mem_of_getElem? (i := 17) rfl))) (Or.inl (hw _ (List.mem_of_getElem? (i := 48) rfl))) (by decide) (t := (.array .byte)) (t' := .long) (by decide) (by decide)
theorem own_sn_WordEdges_behind_received {Z : State} {a0 : Array Value} (hw : ∀ d ∈ tables_1, d.before a0 Z = true) : Jvm.RoadKit.slotOf Z "com/example/vocab_scan/vocabscan/WordEdges" "behind" "J" ≠ Jvm.RoadKit.slotOf Z "com/example/vocab_scan/vocabscan/WordEdges" "received" "J" := slot_ne (Or.inl (hw _ (List.mem_of_getElem? (i := 20) rfl))) (Or.inl (hw _ (List.mem_of_getElem? (i := 48) rfl))) (by decide) (t := .long) (t' := .long) (by decide) (by decide)
theorem own_sn_WordEdges_handing_received {Z : State} {a0 : Array Value} (hw : ∀ d ∈ tables_1, d.before a0 Z = true) : Jvm.RoadKit.slotOf Z "com/example/vocab_scan/vocabscan/WordEdges" "handing" "[B" ≠ Jvm.RoadKit.slotOf Z "com/example/vocab_scan/vocabscan/WordEdges" "received" "J" := slot_ne (Or.inl (hw _ (List.mem_of_getElem? (i := 22) rfl))) (Or.inl (hw _ (List.mem_of_getElem? (i := 48) rfl))) (by decide) (t := (.array .byte)) (t' := .long) (by decide) (by decide)
theorem own_sn_WordEdges_walk_received {Z : State} {a0 : Array Value} (hw : ∀ d ∈ tables_1, d.before a0 Z = true) : Jvm.RoadKit.slotOf Z "com/example/vocab_scan/vocabscan/WordEdges" "walk" "Lcom/example/vocab_scan/vocabscan/Walk;" ≠ Jvm.RoadKit.slotOf Z "com/example/vocab_scan/vocabscan/WordEdges" "received" "J" := slot_ne (Or.inl (hw _ (List.mem_of_getElem? (i := 31) rfl))) (Or.inl (hw _ (List.mem_of_getElem? (i := 48) rfl))) (by decide) (t := (.object "com/example/vocab_scan/vocabscan/Walk")) (t' := .long) (by decide) (by decide)
theorem own_sn_WordEdges_handed_received {Z : State} {a0 : Array Value} (hw : ∀ d ∈ tables_1, d.before a0 Z = true) : Jvm.RoadKit.slotOf Z "com/example/vocab_scan/vocabscan/WordEdges" "handed" "J" ≠ Jvm.RoadKit.slotOf Z "com/example/vocab_scan/vocabscan/WordEdges" "received" "J" := slot_ne (Or.inl (hw _ (List.mem_of_getElem? (i := 42) rfl))) (Or.inl (hw _ (List.mem_of_getElem? (i := 48) rfl))) (by decide) (t := .long) (t' := .long) (by decide) (by decide)
theorem own_dW_0 : decode prog_95_method_6_code 0 = .ok (.aload_n 0, 1) := by decide +kernel
theorem own_dW_1 : decode prog_95_method_6_code 1 = .ok (.iload_n 2, 1) := by decide +kernel
theorem own_dW_2 : decode prog_95_method_6_code 2 = .ok (.invokevirtual 55, 3) := by decide +kernel
theorem own_dW_5 : decode prog_95_method_6_code 5 = .ok (.aload_n 0, 1) := by decide +kernel
theorem own_dW_6 : decode prog_95_method_6_code 6 = .ok (.aload_n 0, 1) := by decide +kernel
theorem own_dW_7 : decode prog_95_method_6_code 7 = .ok (.getfield 45, 3) := by decide +kernel
theorem own_dW_10 : decode prog_95_method_6_code 10 = .ok (.invokevirtual 59, 3) := by decide +kernel
theorem own_dW_13 : decode prog_95_method_6_code 13 = .ok (.istore_n 3, 1) := by decide +kernel
theorem own_dW_14 : decode prog_95_method_6_code 14 = .ok (.iload_n 2, 1) := by decide +kernel
theorem own_dW_15 : decode prog_95_method_6_code 15 = .ok (.aload_n 0, 1) := by decide +kernel
theorem own_dW_16 : decode prog_95_method_6_code 16 = .ok (.getfield 7, 3) := by decide +kernel
theorem own_dW_19 : decode prog_95_method_6_code 19 = .ok (.arraylength, 1) := by decide +kernel
theorem own_dW_20 : decode prog_95_method_6_code 20 = .ok (.iload_n 3, 1) := by decide +kernel
theorem own_dW_21 : decode prog_95_method_6_code 21 = .ok (.isub, 1) := by decide +kernel
theorem own_dW_22 : decode prog_95_method_6_code 22 = .ok (.invokestatic 63, 3) := by decide +kernel
theorem own_dW_25 : decode prog_95_method_6_code 25 = .ok (.istore 4, 2) := by decide +kernel
theorem own_dW_27 : decode prog_95_method_6_code 27 = .ok (.aload_n 1, 1) := by decide +kernel
theorem own_dW_28 : decode prog_95_method_6_code 28 = .ok (.iconst 0, 1) := by decide +kernel
theorem own_dW_29 : decode prog_95_method_6_code 29 = .ok (.aload_n 0, 1) := by decide +kernel
theorem own_dW_30 : decode prog_95_method_6_code 30 = .ok (.getfield 7, 3) := by decide +kernel
theorem own_dW_33 : decode prog_95_method_6_code 33 = .ok (.iload_n 3, 1) := by decide +kernel
theorem own_dW_34 : decode prog_95_method_6_code 34 = .ok (.iload 4, 2) := by decide +kernel
theorem own_dW_36 : decode prog_95_method_6_code 36 = .ok (.invokestatic 67, 3) := by decide +kernel
theorem own_dW_39 : decode prog_95_method_6_code 39 = .ok (.aload_n 1, 1) := by decide +kernel
theorem own_dW_40 : decode prog_95_method_6_code 40 = .ok (.iload 4, 2) := by decide +kernel
theorem own_dW_42 : decode prog_95_method_6_code 42 = .ok (.aload_n 0, 1) := by decide +kernel
theorem own_dW_43 : decode prog_95_method_6_code 43 = .ok (.getfield 7, 3) := by decide +kernel
theorem own_dW_46 : decode prog_95_method_6_code 46 = .ok (.iconst 0, 1) := by decide +kernel
theorem own_dW_47 : decode prog_95_method_6_code 47 = .ok (.iload_n 2, 1) := by decide +kernel
theorem own_dW_48 : decode prog_95_method_6_code 48 = .ok (.iload 4, 2) := by decide +kernel
theorem own_dW_50 : decode prog_95_method_6_code 50 = .ok (.isub, 1) := by decide +kernel
theorem own_dW_51 : decode prog_95_method_6_code 51 = .ok (.invokestatic 67, 3) := by decide +kernel
theorem own_dW_54 : decode prog_95_method_6_code 54 = .ok (.aload_n 0, 1) := by decide +kernel
theorem own_dW_55 : decode prog_95_method_6_code 55 = .ok (.dup, 1) := by decide +kernel
theorem own_dW_56 : decode prog_95_method_6_code 56 = .ok (.getfield 45, 3) := by decide +kernel
theorem own_dW_59 : decode prog_95_method_6_code 59 = .ok (.iload_n 2, 1) := by decide +kernel
theorem own_dW_60 : decode prog_95_method_6_code 60 = .ok (.i2l, 1) := by decide +kernel
theorem own_dW_61 : decode prog_95_method_6_code 61 = .ok (.ladd, 1) := by decide +kernel
theorem own_dW_62 : decode prog_95_method_6_code 62 = .ok (.putfield 45, 3) := by decide +kernel
theorem own_dW_65 : decode prog_95_method_6_code 65 = .ok (.aload_n 0, 1) := by decide +kernel
theorem own_dW_66 : decode prog_95_method_6_code 66 = .ok (.aload_n 0, 1) := by decide +kernel
theorem own_dW_67 : decode prog_95_method_6_code 67 = .ok (.getfield 45, 3) := by decide +kernel
theorem own_dW_70 : decode prog_95_method_6_code 70 = .ok (.ldc2_w 13, 3) := by decide +kernel
theorem own_dW_73 : decode prog_95_method_6_code 73 = .ok (.lsub, 1) := by decide +kernel
theorem own_dW_74 : decode prog_95_method_6_code 74 = .ok (.invokevirtual 73, 3) := by decide +kernel
theorem own_dW_77 : decode prog_95_method_6_code 77 = .ok (.return_, 1) := by decide +kernel
theorem own_pn_own_w0C : plainFor (⟨"com/example/vocab_scan/vocabscan/WordEdges", "walk", "([BI)V"⟩ : MethodName) = true := plainFor_of_name (show plainName "com/example/vocab_scan/vocabscan/WordEdges" = true by first | (simp [plainName, overriddenIn]; done) | decide +kernel)
set_option maxRecDepth 65536 in
set_option maxHeartbeats 40000000 in
theorem own_w0C (l : Launch) (Z : State) (a0 : Array Value) (hw : ∀ d ∈ tables_1, d.before a0 Z = true) (ws : List Jvm.Cond) (h0 : Heap) (n0 : Nat) (Z0 : n0 ≤ h0.size) (o ra ha pa : Addr) (wk : Value) (rcv : Int64) (r qn pl : Nat) (q : Int32) (f g : Nat → Int32) (hr : rcv.toInt = r) (hq : q.toInt = qn) (hrq : r + qn ≤ 8) (hpl : qn ≤ pl) (g_o : n0 ≤ o) (g_ra : n0 ≤ ra) (ne_o_ra : o ≠ ra) (ne_o_pa : o ≠ pa) (ne_ra_pa : ra ≠ pa) (HW : own_W Z h0 o ra ha wk rcv 0) (A_ra : own_B Z h0 ra 16 f) (A_pa : own_B Z h0 pa pl g) (h4 : r + qn ≤ 4)  :
    own_C l Z (⟨"com/example/vocab_scan/vocabscan/WordEdges", "walk", "([BI)V"⟩ : MethodName) prog_95_method_6_code 5 none ws ({ frames := 2, cells := 0, slots := 0, locals := 35 } : Room) #[(.ref o), (.ref pa), (.int q)] h0 (own_Q n0 (fun v h => v = none ∧ n0 ≤ h.size ∧ Keep h0 h [o, ra] ∧ ∃ rv2 : Int64, rv2.toInt = ((r + qn : Nat) : Int) ∧ own_W Z h o ra ha wk rv2 0 ∧ own_B Z h ra 16 (fun x => if r ≤ x ∧ x < r + qn then g (x - r) else f x))) := by
  refine own_met own_pn_own_w0C #[rv o, rv pa, iv q, .unset, .unset] (fun m => by first | (simp [entryFrame, mkF, argsToLocals, Value.category]; done) | rfl) ?_
  intro p e s m below meth c s₁ hx hby hml hown hret hlk hZ hnm X0 e0
  replace X0 := own_S.of X0 (n0)
  have hn : n0 ≤ h0.size := Z0
  have hK := Keep.refl h0 [o, ra]
  obtain ⟨E_o, F_ring, F_behind, F_handing, F_walk, F_received, F_handed⟩ := HW
  refine own_gs 1 [(.ref o)] (fun t' k => XS.aloadN X0.here hx rfl (hb hby own_dW_0) rfl rfl  k) ?_
  refine own_gs 2 [(.int q), (.ref o)] (fun t' k => XS.iloadN X0.here hx rfl (hb hby own_dW_1) rfl  k) ?_
  refine X0.callR hx hZ (y := (⟨"com/example/vocab_scan/vocabscan/WordEdges", "makeRoom", "(I)V"⟩ : MethodName)) hown (hw _ (List.mem_of_getElem? (i := 37) rfl)) (hw _ (List.mem_of_getElem? (i := 8) rfl)) (hw _ (List.mem_of_getElem? (i := 39) rfl)) (hw _ (List.mem_of_getElem? (i := 38) rfl)) (hw _ (List.mem_of_getElem? (i := 9) rfl)) (hw _ (List.mem_of_getElem? (i := 40) rfl)) (by decide) e0 E_o [(.int q)] [] (own_mrC l Z a0 hw [] h0 n0 hn o ra ha wk rcv r qn q f hr hq hrq ⟨E_o, F_ring, F_behind, F_handing, F_walk, F_received, F_handed⟩ A_ra) 0 (by decide) (by decide) (Nat.le_of_eq rfl) (by decide) (by decide) (by rw [hml]; rfl) (lenOf own_pd1 rfl) rfl (hb hby own_dW_2) ?_
  rintro T1 _ X1 ⟨rfl, e1⟩
  show own_G p e below s _ _ _ T1 (mkF m 5 #[rv o, rv pa, iv q, .unset, .unset] [])
  refine own_gs 6 [(.ref o)] (fun t' k => XS.aloadN X1.here hx rfl (hb hby own_dW_5) rfl rfl  k) ?_
  refine own_gs 7 [(.ref o), (.ref o)] (fun t' k => XS.aloadN X1.here hx rfl (hb hby own_dW_6) rfl rfl  k) ?_
  refine X1.getF hx hZ hown (hw _ (List.mem_of_getElem? (i := 47) rfl)) e1 F_received (hb hby own_dW_7) ?_
  intro T2 X2 e2
  refine X2.callR hx hZ (y := (⟨"com/example/vocab_scan/vocabscan/WordEdges", "slot", "(J)I"⟩ : MethodName)) hown (hw _ (List.mem_of_getElem? (i := 49) rfl)) (hw _ (List.mem_of_getElem? (i := 8) rfl)) (hw _ (List.mem_of_getElem? (i := 51) rfl)) (hw _ (List.mem_of_getElem? (i := 50) rfl)) (hw _ (List.mem_of_getElem? (i := 9) rfl)) (hw _ (List.mem_of_getElem? (i := 52) rfl)) (by decide) e2 E_o [(.long rcv)] [] (own_slC l Z a0 hw [] h0 n0 hn o ra f rcv F_ring A_ra) 0 (by decide) (by decide) (Nat.le_of_eq rfl) (by decide) (by decide) (by rw [hml]; rfl) (lenOf own_pd2 rfl) rfl (hb hby own_dW_10) ?_
  rintro T3 _ X3 ⟨rfl, e3⟩
  show own_G p e below s _ _ _ T3 (mkF m 13 #[rv o, rv pa, iv q, .unset, .unset] [(.int (rcv.toInt32 &&& (15 : Int32)))])
  have hsl : ((rcv.toInt32 &&& (15 : Int32))).toInt = (r : Int) := by rw [Jvm.Kit.i32_mask _ 15 (k := 4) (by decide) (by decide), Jvm.Kit.i32_of_i64 (by omega) (by omega), hr]; omega
  generalize (rcv.toInt32 &&& (15 : Int32)) = sl at hsl ⊢
  refine own_go (mkF m 14 #[rv o, rv pa, iv q, iv sl, .unset] []) (fun t' k => XS.istoreN X3.here hx rfl (hb hby own_dW_13) rfl rfl k) ?_
  refine own_gs 15 [(.int q)] (fun t' k => XS.iloadN X3.here hx rfl (hb hby own_dW_14) rfl  k) ?_
  refine own_gs 16 [(.ref o), (.int q)] (fun t' k => XS.aloadN X3.here hx rfl (hb hby own_dW_15) rfl rfl  k) ?_
  refine X3.getF hx hZ hown (hw _ (List.mem_of_getElem? (i := 16) rfl)) e3 F_ring (hb hby own_dW_16) ?_
  intro T4 X4 e4
  refine X4.alenB hx hZ e4 A_ra (hb hby own_dW_19) ?_
  show own_G p e below s _ _ _ T4 (mkF m 20 #[rv o, rv pa, iv q, iv sl, .unset] [(.int (16 : Int32)), (.int q)])
  refine own_gs 21 [(.int sl), (.int (16 : Int32)), (.int q)] (fun t' k => XS.iloadN X4.here hx rfl (hb hby own_dW_20) rfl  k) ?_
  refine own_gs 22 [(.int ((16 : Int32) - sl)), (.int q)] (fun t' k => XS.isub X4.here hx rfl (hb hby own_dW_21) rfl k) ?_
  refine X4.callP hx hZ (y := (⟨"java/lang/Math", "min", "(II)I"⟩ : MethodName)) (fr := 0) (lo := 0) (r := (.int (own_min q ((16 : Int32) - sl)))) hown (hw _ (List.mem_of_getElem? (i := 53) rfl)) (hw _ (List.mem_of_getElem? (i := 54) rfl)) (hw _ (List.mem_of_getElem? (i := 45) rfl)) (hw _ (List.mem_of_getElem? (i := 55) rfl)) (by decide) e4 [(.int q), (.int ((16 : Int32) - sl))] [] (own_minC l Z a0 hw [] h0 q ((16 : Int32) - sl)) 0 (by decide) (by decide) (Nat.le_of_eq rfl) (by decide) (by decide) (by rw [hml]; rfl) (lenOf own_pd3 rfl) rfl (hb hby own_dW_22) ?_
  intro T5 X5 e5
  have z16 : (16 : Int32).toInt = 16 := rfl
  rw [own_minq (x := q) (y := (16 : Int32) - sl) (by rw [Jvm.Kit.i32_sub (by omega) (by omega)]; omega)]
  refine own_go (mkF m 27 #[rv o, rv pa, iv q, iv sl, iv q] []) (fun t' k => XS.istore X5.here hx rfl (hb hby own_dW_25) rfl rfl k) ?_
  refine own_gs 28 [(.ref pa)] (fun t' k => XS.aloadN X5.here hx rfl (hb hby own_dW_27) rfl rfl  k) ?_
  refine own_gs 29 [(.int (0 : Int32)), (.ref pa)] (fun t' k => XS.iconst X5.here hx rfl (hb hby own_dW_28) k) ?_
  refine own_gs 30 [(.ref o), (.int (0 : Int32)), (.ref pa)] (fun t' k => XS.aloadN X5.here hx rfl (hb hby own_dW_29) rfl rfl  k) ?_
  refine X5.getF hx hZ hown (hw _ (List.mem_of_getElem? (i := 16) rfl)) e5 F_ring (hb hby own_dW_30) ?_
  intro T6 X6 e6
  refine own_gs 34 [(.int sl), (.ref ra), (.int (0 : Int32)), (.ref pa)] (fun t' k => XS.iloadN X6.here hx rfl (hb hby own_dW_33) rfl  k) ?_
  refine own_gs 36 [(.int q), (.int sl), (.ref ra), (.int (0 : Int32)), (.ref pa)] (fun t' k => XS.iload X6.here hx rfl (hb hby own_dW_34) rfl  k) ?_
  refine X6.acopy hx hZ hown (hw _ (List.mem_of_getElem? (i := 56) rfl)) (hw _ (List.mem_of_getElem? (i := 59) rfl)) (hw _ (List.mem_of_getElem? (i := 57) rfl)) (hw _ (List.mem_of_getElem? (i := 58) rfl)) e6 A_pa A_ra g_ra 0 r qn (by decide) hsl hq (by omega) (by omega) (by rw [hml]; rfl) (hb hby own_dW_36) (by decide) 0 (Nat.le_of_eq rfl) (by decide) ?_
  intro T7 h7 X7 e7 K7 A7
  replace E_o := E_o.keep K7
  replace F_ring := F_ring.keep K7 (ninS ne_o_ra nin0)
  replace F_behind := F_behind.keep K7 (ninS ne_o_ra nin0)
  replace F_handing := F_handing.keep K7 (ninS ne_o_ra nin0)
  replace F_walk := F_walk.keep K7 (ninS ne_o_ra nin0)
  replace F_received := F_received.keep K7 (ninS ne_o_ra nin0)
  replace F_handed := F_handed.keep K7 (ninS ne_o_ra nin0)
  replace A_pa := A_pa.keep K7 (ninS (Ne.symm ne_ra_pa) nin0)
  replace hn := Nat.le_trans hn K7.1
  replace hK := hK.trans K7 (allS (Or.inl (List.mem_of_getElem? (i := 1) rfl)) all0)
  replace A_ra : own_B Z h7 ra 16 (fun x => if r ≤ x ∧ x < r + qn then g (x - r) else f x) := A7.eq (fun x hx' => by (try dsimp only); split <;> first | rfl | (congr 1; omega))
  refine own_gs 40 [(.ref pa)] (fun t' k => XS.aloadN X7.here hx rfl (hb hby own_dW_39) rfl rfl  k) ?_
  refine own_gs 42 [(.int q), (.ref pa)] (fun t' k => XS.iload X7.here hx rfl (hb hby own_dW_40) rfl  k) ?_
  refine own_gs 43 [(.ref o), (.int q), (.ref pa)] (fun t' k => XS.aloadN X7.here hx rfl (hb hby own_dW_42) rfl rfl  k) ?_
  refine X7.getF hx hZ hown (hw _ (List.mem_of_getElem? (i := 16) rfl)) e7 F_ring (hb hby own_dW_43) ?_
  intro T8 X8 e8
  refine own_gs 47 [(.int (0 : Int32)), (.ref ra), (.int q), (.ref pa)] (fun t' k => XS.iconst X8.here hx rfl (hb hby own_dW_46) k) ?_
  refine own_gs 48 [(.int q), (.int (0 : Int32)), (.ref ra), (.int q), (.ref pa)] (fun t' k => XS.iloadN X8.here hx rfl (hb hby own_dW_47) rfl  k) ?_
  refine own_gs 50 [(.int q), (.int q), (.int (0 : Int32)), (.ref ra), (.int q), (.ref pa)] (fun t' k => XS.iload X8.here hx rfl (hb hby own_dW_48) rfl  k) ?_
  refine own_gs 51 [(.int (q - q)), (.int (0 : Int32)), (.ref ra), (.int q), (.ref pa)] (fun t' k => XS.isub X8.here hx rfl (hb hby own_dW_50) rfl k) ?_
  have hq0 : ((q - q)).toInt = 0 := by rw [Jvm.Kit.i32_sub (by omega) (by omega)]; omega
  generalize (q - q) = q0 at hq0 ⊢
  refine X8.acopy hx hZ hown (hw _ (List.mem_of_getElem? (i := 56) rfl)) (hw _ (List.mem_of_getElem? (i := 59) rfl)) (hw _ (List.mem_of_getElem? (i := 57) rfl)) (hw _ (List.mem_of_getElem? (i := 58) rfl)) e8 A_pa A_ra g_ra qn 0 0 hq (by decide) hq0 (by omega) (by omega) (by rw [hml]; rfl) (hb hby own_dW_51) (by decide) 0 (Nat.le_of_eq rfl) (by decide) ?_
  intro T9 h9 X9 e9 K9 A9
  replace E_o := E_o.keep K9
  replace F_ring := F_ring.keep K9 (ninS ne_o_ra nin0)
  replace F_behind := F_behind.keep K9 (ninS ne_o_ra nin0)
  replace F_handing := F_handing.keep K9 (ninS ne_o_ra nin0)
  replace F_walk := F_walk.keep K9 (ninS ne_o_ra nin0)
  replace F_received := F_received.keep K9 (ninS ne_o_ra nin0)
  replace F_handed := F_handed.keep K9 (ninS ne_o_ra nin0)
  replace A_pa := A_pa.keep K9 (ninS (Ne.symm ne_ra_pa) nin0)
  replace hn := Nat.le_trans hn K9.1
  replace hK := hK.trans K9 (allS (Or.inl (List.mem_of_getElem? (i := 1) rfl)) all0)
  replace A_ra : own_B Z h9 ra 16 (fun x => if r ≤ x ∧ x < r + qn then g (x - r) else f x) := A9.eq (fun x hx' => by (try dsimp only); rw [if_neg (by omega)])
  refine own_gs 55 [(.ref o)] (fun t' k => XS.aloadN X9.here hx rfl (hb hby own_dW_54) rfl rfl  k) ?_
  refine own_gs 56 [(.ref o), (.ref o)] (fun t' k => XS.dup X9.here hx rfl (hb hby own_dW_55) rfl rfl k) ?_
  refine X9.getF hx hZ hown (hw _ (List.mem_of_getElem? (i := 47) rfl)) e9 F_received (hb hby own_dW_56) ?_
  intro T10 X10 e10
  refine own_gs 60 [(.int q), (.long rcv), (.ref o)] (fun t' k => XS.iloadN X10.here hx rfl (hb hby own_dW_59) rfl  k) ?_
  refine own_gs 61 [(.long (q.toInt64)), (.long rcv), (.ref o)] (fun t' k => XS.i2l X10.here hx rfl (hb hby own_dW_60) rfl k) ?_
  refine own_gs 62 [(.long (rcv + (q.toInt64))), (.ref o)] (fun t' k => XS.ladd X10.here hx rfl (hb hby own_dW_61) rfl k) ?_
  have hr2 : ((rcv + (q.toInt64))).toInt = ((r + qn : Nat) : Int) := by rw [Jvm.Kit.i64_add (by rw [Int32.toInt_toInt64]; omega) (by rw [Int32.toInt_toInt64]; omega), Int32.toInt_toInt64]; omega
  generalize (rcv + (q.toInt64)) = rv2 at hr2 ⊢
  refine X10.putF hx hZ hown (hw _ (List.mem_of_getElem? (i := 47) rfl)) e10 F_received E_o g_o (Or.inl (hw _ (List.mem_of_getElem? (i := 48) rfl))) (hw _ (List.mem_of_getElem? (i := 8) rfl)) (ty := .long) (by decide) rfl rfl (hb hby own_dW_62) ?_
  intro T11 h11 X11 e11 W11
  replace E_o := E_o.wr W11
  replace F_ring := F_ring.other W11 (Or.inr (own_sn_WordEdges_ring_received hw))
  replace F_behind := F_behind.other W11 (Or.inr (own_sn_WordEdges_behind_received hw))
  replace F_handing := F_handing.other W11 (Or.inr (own_sn_WordEdges_handing_received hw))
  replace F_walk := F_walk.other W11 (Or.inr (own_sn_WordEdges_walk_received hw))
  replace F_received := F_received.same W11
  replace F_handed := F_handed.other W11 (Or.inr (own_sn_WordEdges_handed_received hw))
  replace A_ra := A_ra.other W11 (Ne.symm ne_o_ra)
  replace A_pa := A_pa.other W11 (Ne.symm ne_o_pa)
  replace hn := Nat.le_trans hn (Keep.of_wr W11).1
  replace hK := hK.wr W11 (Or.inl (List.mem_of_getElem? (i := 0) rfl))
  clear W11 X10 e10
  refine own_gs 66 [(.ref o)] (fun t' k => XS.aloadN X11.here hx rfl (hb hby own_dW_65) rfl rfl  k) ?_
  refine own_gs 67 [(.ref o), (.ref o)] (fun t' k => XS.aloadN X11.here hx rfl (hb hby own_dW_66) rfl rfl  k) ?_
  refine X11.getF hx hZ hown (hw _ (List.mem_of_getElem? (i := 47) rfl)) e11 F_received (hb hby own_dW_67) ?_
  intro T12 X12 e12
  refine own_gs 73 [(.long (4 : Int64)), (.long rv2), (.ref o)] (fun t' k => X12.ldc2Long hx hown (mvT hZ (hw _ (List.mem_of_getElem? (i := 18) rfl))) (g := (mkF m 70 #[rv o, rv pa, iv q, iv sl, iv q] [(.long rv2), (.ref o)])) rfl (hb hby own_dW_70) _ k) ?_
  refine own_gs 74 [(.long (rv2 - (4 : Int64))), (.ref o)] (fun t' k => XS.lsub X12.here hx rfl (hb hby own_dW_73) rfl k) ?_
  have hto : ((rv2 - (4 : Int64))).toInt = ((r + qn : Nat) : Int) - 4 := by have e4 : (4 : Int64).toInt = 4 := rfl; rw [Jvm.Kit.i64_sub (by omega) (by omega)]; omega
  generalize (rv2 - (4 : Int64)) = to at hto ⊢
  refine X12.callR hx hZ (y := (⟨"com/example/vocab_scan/vocabscan/WordEdges", "handOn", "(J)V"⟩ : MethodName)) hown (hw _ (List.mem_of_getElem? (i := 60) rfl)) (hw _ (List.mem_of_getElem? (i := 8) rfl)) (hw _ (List.mem_of_getElem? (i := 62) rfl)) (hw _ (List.mem_of_getElem? (i := 61) rfl)) (hw _ (List.mem_of_getElem? (i := 9) rfl)) (hw _ (List.mem_of_getElem? (i := 63) rfl)) (by decide) e12 E_o [(.long to)] [] (own_h0C l Z a0 hw [] h11 n0 hn o to (by omega) F_handed) 0 (by decide) (by decide) (Nat.le_of_eq rfl) (by decide) (by decide) (by rw [hml]; rfl) (lenOf own_pd4 rfl) rfl (hb hby own_dW_74) ?_
  rintro T13 _ X13 ⟨rfl, e13⟩
  show own_G p e below s _ _ _ T13 (mkF m 77 #[rv o, rv pa, iv q, iv sl, iv q] [])
  refine X13.retV hx hlk hret (hb hby own_dW_77) ?_ (by decide) (by decide)
  rw [e13]
  exact ⟨rfl, hn, hK, rv2, hr2, ⟨E_o, F_ring, F_behind, F_handing, F_walk, F_received, F_handed⟩, A_ra⟩

theorem own_sn_WordEdges_ring_handed {Z : State} {a0 : Array Value} (hw : ∀ d ∈ tables_1, d.before a0 Z = true) : Jvm.RoadKit.slotOf Z "com/example/vocab_scan/vocabscan/WordEdges" "ring" "[B" ≠ Jvm.RoadKit.slotOf Z "com/example/vocab_scan/vocabscan/WordEdges" "handed" "J" := slot_ne (Or.inl (hw _ (List.mem_of_getElem? (i := 17) rfl))) (Or.inl (hw _ (List.mem_of_getElem? (i := 42) rfl))) (by decide) (t := (.array .byte)) (t' := .long) (by decide) (by decide)
theorem own_sn_WordEdges_behind_handed {Z : State} {a0 : Array Value} (hw : ∀ d ∈ tables_1, d.before a0 Z = true) : Jvm.RoadKit.slotOf Z "com/example/vocab_scan/vocabscan/WordEdges" "behind" "J" ≠ Jvm.RoadKit.slotOf Z "com/example/vocab_scan/vocabscan/WordEdges" "handed" "J" := slot_ne (Or.inl (hw _ (List.mem_of_getElem? (i := 20) rfl))) (Or.inl (hw _ (List.mem_of_getElem? (i := 42) rfl))) (by decide) (t := .long) (t' := .long) (by decide) (by decide)
theorem own_sn_WordEdges_handing_handed {Z : State} {a0 : Array Value} (hw : ∀ d ∈ tables_1, d.before a0 Z = true) : Jvm.RoadKit.slotOf Z "com/example/vocab_scan/vocabscan/WordEdges" "handing" "[B" ≠ Jvm.RoadKit.slotOf Z "com/example/vocab_scan/vocabscan/WordEdges" "handed" "J" := slot_ne (Or.inl (hw _ (List.mem_of_getElem? (i := 22) rfl))) (Or.inl (hw _ (List.mem_of_getElem? (i := 42) rfl))) (by decide) (t := (.array .byte)) (t' := .long) (by decide) (by decide)
theorem own_sn_WordEdges_walk_handed {Z : State} {a0 : Array Value} (hw : ∀ d ∈ tables_1, d.before a0 Z = true) : Jvm.RoadKit.slotOf Z "com/example/vocab_scan/vocabscan/WordEdges" "walk" "Lcom/example/vocab_scan/vocabscan/Walk;" ≠ Jvm.RoadKit.slotOf Z "com/example/vocab_scan/vocabscan/WordEdges" "handed" "J" := slot_ne (Or.inl (hw _ (List.mem_of_getElem? (i := 31) rfl))) (Or.inl (hw _ (List.mem_of_getElem? (i := 42) rfl))) (by decide) (t := (.object "com/example/vocab_scan/vocabscan/Walk")) (t' := .long) (by decide) (by decide)
theorem own_sn_WordEdges_received_handed {Z : State} {a0 : Array Value} (hw : ∀ d ∈ tables_1, d.before a0 Z = true) : Jvm.RoadKit.slotOf Z "com/example/vocab_scan/vocabscan/WordEdges" "received" "J" ≠ Jvm.RoadKit.slotOf Z "com/example/vocab_scan/vocabscan/WordEdges" "handed" "J" := slot_ne (Or.inl (hw _ (List.mem_of_getElem? (i := 48) rfl))) (Or.inl (hw _ (List.mem_of_getElem? (i := 42) rfl))) (by decide) (t := .long) (t' := .long) (by decide) (by decide)
theorem own_dH_9 : decode prog_95_method_13_code 9 = .ok (.lload_n 1, 1) := by decide +kernel
theorem own_dH_10 : decode prog_95_method_13_code 10 = .ok (.aload_n 0, 1) := by decide +kernel
theorem own_dH_11 : decode prog_95_method_13_code 11 = .ok (.getfield 48, 3) := by decide +kernel
theorem own_dH_14 : decode prog_95_method_13_code 14 = .ok (.lsub, 1) := by decide +kernel
theorem own_dH_15 : decode prog_95_method_13_code 15 = .ok (.l2i, 1) := by decide +kernel
theorem own_dH_16 : decode prog_95_method_13_code 16 = .ok (.istore_n 3, 1) := by decide +kernel
theorem own_dH_17 : decode prog_95_method_13_code 17 = .ok (.aload_n 0, 1) := by decide +kernel
theorem own_dH_18 : decode prog_95_method_13_code 18 = .ok (.getfield 19, 3) := by decide +kernel
theorem own_dH_21 : decode prog_95_method_13_code 21 = .ok (.arraylength, 1) := by decide +kernel
theorem own_dH_22 : decode prog_95_method_13_code 22 = .ok (.iload_n 3, 1) := by decide +kernel
theorem own_dH_23 : decode prog_95_method_13_code 23 = .ok (.if_icmp .ge 20, 3) := by decide +kernel
theorem own_dH_43 : decode prog_95_method_13_code 43 = .ok (.aload_n 0, 1) := by decide +kernel
theorem own_dH_44 : decode prog_95_method_13_code 44 = .ok (.aload_n 0, 1) := by decide +kernel
theorem own_dH_45 : decode prog_95_method_13_code 45 = .ok (.getfield 48, 3) := by decide +kernel
theorem own_dH_48 : decode prog_95_method_13_code 48 = .ok (.invokevirtual 59, 3) := by decide +kernel
theorem own_dH_51 : decode prog_95_method_13_code 51 = .ok (.istore 4, 2) := by decide +kernel
theorem own_dH_53 : decode prog_95_method_13_code 53 = .ok (.iload_n 3, 1) := by decide +kernel
theorem own_dH_54 : decode prog_95_method_13_code 54 = .ok (.aload_n 0, 1) := by decide +kernel
theorem own_dH_55 : decode prog_95_method_13_code 55 = .ok (.getfield 7, 3) := by decide +kernel
theorem own_dH_58 : decode prog_95_method_13_code 58 = .ok (.arraylength, 1) := by decide +kernel
theorem own_dH_59 : decode prog_95_method_13_code 59 = .ok (.iload 4, 2) := by decide +kernel
theorem own_dH_61 : decode prog_95_method_13_code 61 = .ok (.isub, 1) := by decide +kernel
theorem own_dH_62 : decode prog_95_method_13_code 62 = .ok (.invokestatic 63, 3) := by decide +kernel
theorem own_dH_65 : decode prog_95_method_13_code 65 = .ok (.istore 5, 2) := by decide +kernel
theorem own_dH_67 : decode prog_95_method_13_code 67 = .ok (.aload_n 0, 1) := by decide +kernel
theorem own_dH_68 : decode prog_95_method_13_code 68 = .ok (.getfield 7, 3) := by decide +kernel
theorem own_dH_71 : decode prog_95_method_13_code 71 = .ok (.iload 4, 2) := by decide +kernel
theorem own_dH_73 : decode prog_95_method_13_code 73 = .ok (.aload_n 0, 1) := by decide +kernel
theorem own_dH_74 : decode prog_95_method_13_code 74 = .ok (.getfield 19, 3) := by decide +kernel
theorem own_dH_77 : decode prog_95_method_13_code 77 = .ok (.iconst 0, 1) := by decide +kernel
theorem own_dH_78 : decode prog_95_method_13_code 78 = .ok (.iload 5, 2) := by decide +kernel
theorem own_dH_80 : decode prog_95_method_13_code 80 = .ok (.invokestatic 67, 3) := by decide +kernel
theorem own_dH_83 : decode prog_95_method_13_code 83 = .ok (.aload_n 0, 1) := by decide +kernel
theorem own_dH_84 : decode prog_95_method_13_code 84 = .ok (.getfield 7, 3) := by decide +kernel
theorem own_dH_87 : decode prog_95_method_13_code 87 = .ok (.iconst 0, 1) := by decide +kernel
theorem own_dH_88 : decode prog_95_method_13_code 88 = .ok (.aload_n 0, 1) := by decide +kernel
theorem own_dH_89 : decode prog_95_method_13_code 89 = .ok (.getfield 19, 3) := by decide +kernel
theorem own_dH_92 : decode prog_95_method_13_code 92 = .ok (.iload 5, 2) := by decide +kernel
theorem own_dH_94 : decode prog_95_method_13_code 94 = .ok (.iload_n 3, 1) := by decide +kernel
theorem own_dH_95 : decode prog_95_method_13_code 95 = .ok (.iload 5, 2) := by decide +kernel
theorem own_dH_97 : decode prog_95_method_13_code 97 = .ok (.isub, 1) := by decide +kernel
theorem own_dH_98 : decode prog_95_method_13_code 98 = .ok (.invokestatic 67, 3) := by decide +kernel
theorem own_dH_101 : decode prog_95_method_13_code 101 = .ok (.aload_n 0, 1) := by decide +kernel
theorem own_dH_102 : decode prog_95_method_13_code 102 = .ok (.lload_n 1, 1) := by decide +kernel
theorem own_dH_103 : decode prog_95_method_13_code 103 = .ok (.putfield 48, 3) := by decide +kernel
theorem own_dH_106 : decode prog_95_method_13_code 106 = .ok (.aload_n 0, 1) := by decide +kernel
theorem own_dH_107 : decode prog_95_method_13_code 107 = .ok (.getfield 35, 3) := by decide +kernel
theorem own_dH_110 : decode prog_95_method_13_code 110 = .ok (.aload_n 0, 1) := by decide +kernel
theorem own_dH_111 : decode prog_95_method_13_code 111 = .ok (.getfield 19, 3) := by decide +kernel
theorem own_dH_114 : decode prog_95_method_13_code 114 = .ok (.iload_n 3, 1) := by decide +kernel
theorem own_dH_115 : decode prog_95_method_13_code 115 = .ok (.invokeinterface 109 3, 5) := by decide +kernel
theorem own_pn_own_h1C : plainFor (⟨"com/example/vocab_scan/vocabscan/WordEdges", "handOn", "(J)V"⟩ : MethodName) = true := plainFor_of_name (show plainName "com/example/vocab_scan/vocabscan/WordEdges" = true by first | (simp [plainName, overriddenIn]; done) | decide +kernel)
set_option maxRecDepth 65536 in
set_option maxHeartbeats 40000000 in
theorem own_h1C (l : Launch) (Z : State) (a0 : Array Value) (hw : ∀ d ∈ tables_1, d.before a0 Z = true) (ws : List Jvm.Cond) (h0 : Heap) (n0 : Nat) (Z0 : n0 ≤ h0.size) (o ra ha nx2 rb hbq : Addr) (wk2 : Value) (rcv to : Int64) (rr : Nat) (f fb fh : Nat → Int32) (hto : to.toInt = (rr : Int) - 4) (hrr : rr ≤ 8) (g_o : n0 ≤ o) (g_ha : n0 ≤ ha) (g_nx2 : n0 ≤ nx2) (g_rb : n0 ≤ rb) (ne_o_ra : o ≠ ra) (ne_o_ha : o ≠ ha) (ne_o_nx2 : o ≠ nx2) (ne_o_rb : o ≠ rb) (ne_ra_ha : ra ≠ ha) (ne_ra_nx2 : ra ≠ nx2) (ne_ra_rb : ra ≠ rb) (ne_ha_nx2 : ha ≠ nx2) (ne_ha_rb : ha ≠ rb) (ne_nx2_rb : nx2 ≠ rb) (HW : own_W Z h0 o ra ha (.ref nx2) rcv 0) (A_ra : own_B Z h0 ra 16 f) (A_ha : own_B Z h0 ha 16 fh) (HW2 : own_W Z h0 nx2 rb hbq wk2 0 0) (A_rb : own_B Z h0 rb 16 fb)  :
    own_C l Z (⟨"com/example/vocab_scan/vocabscan/WordEdges", "handOn", "(J)V"⟩ : MethodName) prog_95_method_13_code 6 none ws ({ frames := 3, cells := 0, slots := 0, locals := 51 } : Room) #[(.ref o), (.long to)] h0 (own_Q n0 (fun v h => v = none ∧ n0 ≤ h.size ∧ Keep h0 h [o, ha, nx2, rb] ∧ ∃ hd2 : Int64, own_W Z h o ra ha (.ref nx2) rcv hd2)) := by
  refine own_met own_pn_own_h1C #[rv o, jv to, .second, .unset, .unset, .unset] (fun m => by first | (simp [entryFrame, mkF, argsToLocals, Value.category]; done) | rfl) ?_
  intro p e s m below meth c s₁ hx hby hml hown hret hlk hZ hnm X0 e0
  replace X0 := own_S.of X0 (n0)
  have hn : n0 ≤ h0.size := Z0
  have hK := Keep.refl h0 [o, ha, nx2, rb]
  obtain ⟨E_o, F_ring, F_behind, F_handing, F_walk, F_received, F_handed⟩ := HW
  refine own_gs 1 [(.long to)] (fun t' k => XS.lloadN X0.here hx rfl (hb hby own_dH_0) rfl  k) ?_
  refine own_gs 2 [(.ref o), (.long to)] (fun t' k => XS.aloadN X0.here hx rfl (hb hby own_dH_1) rfl rfl  k) ?_
  refine X0.getF hx hZ hown (hw _ (List.mem_of_getElem? (i := 41) rfl)) e0 F_handed (hb hby own_dH_2) ?_
  intro T1 X1 e1
  refine own_gs 6 [(.int (lcmpW to (0 : Int64)))] (fun t' k => XS.lcmp X1.here hx rfl (hb hby own_dH_5) rfl k) ?_
  by_cases hc6 : (0 : Int64) < to
  · skip
    refine own_gs 9 [] (fun t' k => XS.ifNo X1.here hx rfl (hb hby own_dH_6) rfl ((if0 _ _).trans (tlt ((lw_gt to (0 : Int64)).mpr hc6)).2.2.2) k) ?_
    refine own_gs 10 [(.long to)] (fun t' k => XS.lloadN X1.here hx rfl (hb hby own_dH_9) rfl  k) ?_
    refine own_gs 11 [(.ref o), (.long to)] (fun t' k => XS.aloadN X1.here hx rfl (hb hby own_dH_10) rfl rfl  k) ?_
    refine X1.getF hx hZ hown (hw _ (List.mem_of_getElem? (i := 41) rfl)) e1 F_handed (hb hby own_dH_11) ?_
    intro T2 X2 e2
    refine own_gs 15 [(.long (to - (0 : Int64)))] (fun t' k => XS.lsub X2.here hx rfl (hb hby own_dH_14) rfl k) ?_
    refine own_gs 16 [(.int ((to - (0 : Int64)).toInt32))] (fun t' k => XS.l2i X2.here hx rfl (hb hby own_dH_15) rfl k) ?_
    have e0 : (0 : Int64).toInt = 0 := rfl
    have hc6i := Int64.lt_iff_toInt_lt.mp hc6
    have hln : (((to - (0 : Int64)).toInt32)).toInt = ((rr - 4 : Nat) : Int) := by rw [Jvm.Kit.i32_of_i64 (by rw [Jvm.Kit.i64_sub (by omega) (by omega)]; omega) (by rw [Jvm.Kit.i64_sub (by omega) (by omega)]; omega), Jvm.Kit.i64_sub (by omega) (by omega)]; omega
    generalize ((to - (0 : Int64)).toInt32) = ln at hln ⊢
    have z16 : (16 : Int32).toInt = 16 := rfl
    refine own_go (mkF m 17 #[rv o, jv to, .second, iv ln, .unset, .unset] []) (fun t' k => XS.istoreN X2.here hx rfl (hb hby own_dH_16) rfl rfl k) ?_
    refine own_gs 18 [(.ref o)] (fun t' k => XS.aloadN X2.here hx rfl (hb hby own_dH_17) rfl rfl  k) ?_
    refine X2.getF hx hZ hown (hw _ (List.mem_of_getElem? (i := 21) rfl)) e2 F_handing (hb hby own_dH_18) ?_
    intro T3 X3 e3
    refine X3.alenB hx hZ e3 A_ha (hb hby own_dH_21) ?_
    show own_G p e below s _ _ _ T3 (mkF m 22 #[rv o, jv to, .second, iv ln, .unset, .unset] [(.int (16 : Int32))])
    refine own_gs 23 [(.int ln), (.int (16 : Int32))] (fun t' k => XS.iloadN X3.here hx rfl (hb hby own_dH_22) rfl  k) ?_
    refine own_gs 43 [] (fun t' k => XS.icmpYes X3.here hx rfl (pc0 := 23) (pc' := 43) rfl (hb hby own_dH_23) rfl (flt (by rw [Int32.lt_iff_toInt_lt]; omega)).2.1 (by decide) (by decide) k) ?_
    refine own_gs 44 [(.ref o)] (fun t' k => XS.aloadN X3.here hx rfl (hb hby own_dH_43) rfl rfl  k) ?_
    refine own_gs 45 [(.ref o), (.ref o)] (fun t' k => XS.aloadN X3.here hx rfl (hb hby own_dH_44) rfl rfl  k) ?_
    refine X3.getF hx hZ hown (hw _ (List.mem_of_getElem? (i := 41) rfl)) e3 F_handed (hb hby own_dH_45) ?_
    intro T4 X4 e4
    refine X4.callR hx hZ (y := (⟨"com/example/vocab_scan/vocabscan/WordEdges", "slot", "(J)I"⟩ : MethodName)) hown (hw _ (List.mem_of_getElem? (i := 49) rfl)) (hw _ (List.mem_of_getElem? (i := 8) rfl)) (hw _ (List.mem_of_getElem? (i := 51) rfl)) (hw _ (List.mem_of_getElem? (i := 50) rfl)) (hw _ (List.mem_of_getElem? (i := 9) rfl)) (hw _ (List.mem_of_getElem? (i := 52) rfl)) (by decide) e4 E_o [(.long (0 : Int64))] [] (own_slC l Z a0 hw [] h0 n0 hn o ra f (0 : Int64) F_ring A_ra) 0 (by decide) (by decide) (Nat.le_of_eq rfl) (by decide) (by decide) (by rw [hml]; rfl) (lenOf own_pd2 rfl) rfl (hb hby own_dH_48) ?_
    rintro T5 _ X5 ⟨rfl, e5⟩
    show own_G p e below s _ _ _ T5 (mkF m 51 #[rv o, jv to, .second, iv ln, .unset, .unset] [(.int ((0 : Int64).toInt32 &&& (15 : Int32)))])
    rw [show ((0 : Int64).toInt32 &&& (15 : Int32)) = (0 : Int32) from by decide]
    refine own_go (mkF m 53 #[rv o, jv to, .second, iv ln, iv (0 : Int32), .unset] []) (fun t' k => XS.istore X5.here hx rfl (hb hby own_dH_51) rfl rfl k) ?_
    refine own_gs 54 [(.int ln)] (fun t' k => XS.iloadN X5.here hx rfl (hb hby own_dH_53) rfl  k) ?_
    refine own_gs 55 [(.ref o), (.int ln)] (fun t' k => XS.aloadN X5.here hx rfl (hb hby own_dH_54) rfl rfl  k) ?_
    refine X5.getF hx hZ hown (hw _ (List.mem_of_getElem? (i := 16) rfl)) e5 F_ring (hb hby own_dH_55) ?_
    intro T6 X6 e6
    refine X6.alenB hx hZ e6 A_ra (hb hby own_dH_58) ?_
    show own_G p e below s _ _ _ T6 (mkF m 59 #[rv o, jv to, .second, iv ln, iv (0 : Int32), .unset] [(.int (16 : Int32)), (.int ln)])
    refine own_gs 61 [(.int (0 : Int32)), (.int (16 : Int32)), (.int ln)] (fun t' k => XS.iload X6.here hx rfl (hb hby own_dH_59) rfl  k) ?_
    refine own_gs 62 [(.int (16 : Int32)), (.int ln)] (fun t' k => XS.isub X6.here hx rfl (hb hby own_dH_61) rfl k) ?_
    refine X6.callP hx hZ (y := (⟨"java/lang/Math", "min", "(II)I"⟩ : MethodName)) (fr := 0) (lo := 0) (r := (.int (own_min ln (16 : Int32)))) hown (hw _ (List.mem_of_getElem? (i := 53) rfl)) (hw _ (List.mem_of_getElem? (i := 54) rfl)) (hw _ (List.mem_of_getElem? (i := 45) rfl)) (hw _ (List.mem_of_getElem? (i := 55) rfl)) (by decide) e6 [(.int ln), (.int (16 : Int32))] [] (own_minC l Z a0 hw [] h0 ln (16 : Int32)) 0 (by decide) (by decide) (Nat.le_of_eq rfl) (by decide) (by decide) (by rw [hml]; rfl) (lenOf own_pd3 rfl) rfl (hb hby own_dH_62) ?_
    intro T7 X7 e7
    rw [own_minq (x := ln) (y := (16 : Int32)) (by omega)]
    refine own_go (mkF m 67 #[rv o, jv to, .second, iv ln, iv (0 : Int32), iv ln] []) (fun t' k => XS.istore X7.here hx rfl (hb hby own_dH_65) rfl rfl k) ?_
    refine own_gs 68 [(.ref o)] (fun t' k => XS.aloadN X7.here hx rfl (hb hby own_dH_67) rfl rfl  k) ?_
    refine X7.getF hx hZ hown (hw _ (List.mem_of_getElem? (i := 16) rfl)) e7 F_ring (hb hby own_dH_68) ?_
    intro T8 X8 e8
    refine own_gs 73 [(.int (0 : Int32)), (.ref ra)] (fun t' k => XS.iload X8.here hx rfl (hb hby own_dH_71) rfl  k) ?_
    refine own_gs 74 [(.ref o), (.int (0 : Int32)), (.ref ra)] (fun t' k => XS.aloadN X8.here hx rfl (hb hby own_dH_73) rfl rfl  k) ?_
    refine X8.getF hx hZ hown (hw _ (List.mem_of_getElem? (i := 21) rfl)) e8 F_handing (hb hby own_dH_74) ?_
    intro T9 X9 e9
    refine own_gs 78 [(.int (0 : Int32)), (.ref ha), (.int (0 : Int32)), (.ref ra)] (fun t' k => XS.iconst X9.here hx rfl (hb hby own_dH_77) k) ?_
    refine own_gs 80 [(.int ln), (.int (0 : Int32)), (.ref ha), (.int (0 : Int32)), (.ref ra)] (fun t' k => XS.iload X9.here hx rfl (hb hby own_dH_78) rfl  k) ?_
    refine X9.acopy hx hZ hown (hw _ (List.mem_of_getElem? (i := 56) rfl)) (hw _ (List.mem_of_getElem? (i := 59) rfl)) (hw _ (List.mem_of_getElem? (i := 57) rfl)) (hw _ (List.mem_of_getElem? (i := 58) rfl)) e9 A_ra A_ha g_ha 0 0 (rr - 4) (by decide) (by decide) hln (by omega) (by omega) (by rw [hml]; rfl) (hb hby own_dH_80) (by decide) 0 (Nat.le_of_eq rfl) (by decide) ?_
    intro T10 h10 X10 e10 K10 A10
    replace E_o := E_o.keep K10
    replace F_ring := F_ring.keep K10 (ninS ne_o_ha nin0)
    replace F_behind := F_behind.keep K10 (ninS ne_o_ha nin0)
    replace F_handing := F_handing.keep K10 (ninS ne_o_ha nin0)
    replace F_walk := F_walk.keep K10 (ninS ne_o_ha nin0)
    replace F_received := F_received.keep K10 (ninS ne_o_ha nin0)
    replace F_handed := F_handed.keep K10 (ninS ne_o_ha nin0)
    replace A_ra := A_ra.keep K10 (ninS ne_ra_ha nin0)
    replace HW2 := HW2.keep K10 (ninS (Ne.symm ne_ha_nx2) nin0)
    replace A_rb := A_rb.keep K10 (ninS (Ne.symm ne_ha_rb) nin0)
    replace hn := Nat.le_trans hn K10.1
    replace hK := hK.trans K10 (allS (Or.inl (List.mem_of_getElem? (i := 1) rfl)) all0)
    replace A_ha : own_B Z h10 ha 16 (fun x => if x < rr - 4 then f x else fh x) := A10.eq (fun x hx' => by (try dsimp only); by_cases q1 : x < rr - 4 <;> simp [q1])
    refine own_gs 84 [(.ref o)] (fun t' k => XS.aloadN X10.here hx rfl (hb hby own_dH_83) rfl rfl  k) ?_
    refine X10.getF hx hZ hown (hw _ (List.mem_of_getElem? (i := 16) rfl)) e10 F_ring (hb hby own_dH_84) ?_
    intro T11 X11 e11
    refine own_gs 88 [(.int (0 : Int32)), (.ref ra)] (fun t' k => XS.iconst X11.here hx rfl (hb hby own_dH_87) k) ?_
    refine own_gs 89 [(.ref o), (.int (0 : Int32)), (.ref ra)] (fun t' k => XS.aloadN X11.here hx rfl (hb hby own_dH_88) rfl rfl  k) ?_
    refine X11.getF hx hZ hown (hw _ (List.mem_of_getElem? (i := 21) rfl)) e11 F_handing (hb hby own_dH_89) ?_
    intro T12 X12 e12
    refine own_gs 94 [(.int ln), (.ref ha), (.int (0 : Int32)), (.ref ra)] (fun t' k => XS.iload X12.here hx rfl (hb hby own_dH_92) rfl  k) ?_
    refine own_gs 95 [(.int ln), (.int ln), (.ref ha), (.int (0 : Int32)), (.ref ra)] (fun t' k => XS.iloadN X12.here hx rfl (hb hby own_dH_94) rfl  k) ?_
    refine own_gs 97 [(.int ln), (.int ln), (.int ln), (.ref ha), (.int (0 : Int32)), (.ref ra)] (fun t' k => XS.iload X12.here hx rfl (hb hby own_dH_95) rfl  k) ?_
    refine own_gs 98 [(.int (ln - ln)), (.int ln), (.ref ha), (.int (0 : Int32)), (.ref ra)] (fun t' k => XS.isub X12.here hx rfl (hb hby own_dH_97) rfl k) ?_
    have hq0 : ((ln - ln)).toInt = 0 := by rw [Jvm.Kit.i32_sub (by omega) (by omega)]; omega
    generalize (ln - ln) = q0 at hq0 ⊢
    refine X12.acopy hx hZ hown (hw _ (List.mem_of_getElem? (i := 56) rfl)) (hw _ (List.mem_of_getElem? (i := 59) rfl)) (hw _ (List.mem_of_getElem? (i := 57) rfl)) (hw _ (List.mem_of_getElem? (i := 58) rfl)) e12 A_ra A_ha g_ha 0 (rr - 4) 0 (by decide) hln hq0 (by omega) (by omega) (by rw [hml]; rfl) (hb hby own_dH_98) (by decide) 0 (Nat.le_of_eq rfl) (by decide) ?_
    intro T13 h13 X13 e13 K13 A13
    replace E_o := E_o.keep K13
    replace F_ring := F_ring.keep K13 (ninS ne_o_ha nin0)
    replace F_behind := F_behind.keep K13 (ninS ne_o_ha nin0)
    replace F_handing := F_handing.keep K13 (ninS ne_o_ha nin0)
    replace F_walk := F_walk.keep K13 (ninS ne_o_ha nin0)
    replace F_received := F_received.keep K13 (ninS ne_o_ha nin0)
    replace F_handed := F_handed.keep K13 (ninS ne_o_ha nin0)
    replace A_ra := A_ra.keep K13 (ninS ne_ra_ha nin0)
    replace HW2 := HW2.keep K13 (ninS (Ne.symm ne_ha_nx2) nin0)
    replace A_rb := A_rb.keep K13 (ninS (Ne.symm ne_ha_rb) nin0)
    replace hn := Nat.le_trans hn K13.1
    replace hK := hK.trans K13 (allS (Or.inl (List.mem_of_getElem? (i := 1) rfl)) all0)
    replace A_ha : own_B Z h13 ha 16 (fun x => if x < rr - 4 then f x else fh x) := A13.eq (fun x hx' => by (try dsimp only); rw [if_neg (by omega)])
    refine own_gs 102 [(.ref o)] (fun t' k => XS.aloadN X13.here hx rfl (hb hby own_dH_101) rfl rfl  k) ?_
    refine own_gs 103 [(.long to), (.ref o)] (fun t' k => XS.lloadN X13.here hx rfl (hb hby own_dH_102) rfl  k) ?_
    refine X13.putF hx hZ hown (hw _ (List.mem_of_getElem? (i := 41) rfl)) e13 F_handed E_o g_o (Or.inl (hw _ (List.mem_of_getElem? (i := 42) rfl))) (hw _ (List.mem_of_getElem? (i := 8) rfl)) (ty := .long) (by decide) rfl rfl (hb hby own_dH_103) ?_
    intro T14 h14 X14 e14 W14
    replace E_o := E_o.wr W14
    replace F_ring := F_ring.other W14 (Or.inr (own_sn_WordEdges_ring_handed hw))
    replace F_behind := F_behind.other W14 (Or.inr (own_sn_WordEdges_behind_handed hw))
    replace F_handing := F_handing.other W14 (Or.inr (own_sn_WordEdges_handing_handed hw))
    replace F_walk := F_walk.other W14 (Or.inr (own_sn_WordEdges_walk_handed hw))
    replace F_received := F_received.other W14 (Or.inr (own_sn_WordEdges_received_handed hw))
    replace F_handed := F_handed.same W14
    replace A_ra := A_ra.other W14 (Ne.symm ne_o_ra)
    replace A_ha := A_ha.other W14 (Ne.symm ne_o_ha)
    replace HW2 := HW2.other W14 (Ne.symm ne_o_nx2)
    replace A_rb := A_rb.other W14 (Ne.symm ne_o_rb)
    replace hn := Nat.le_trans hn (Keep.of_wr W14).1
    replace hK := hK.wr W14 (Or.inl (List.mem_of_getElem? (i := 0) rfl))
    clear W14 X13 e13
    refine own_gs 107 [(.ref o)] (fun t' k => XS.aloadN X14.here hx rfl (hb hby own_dH_106) rfl rfl  k) ?_
    refine X14.getF hx hZ hown (hw _ (List.mem_of_getElem? (i := 30) rfl)) e14 F_walk (hb hby own_dH_107) ?_
    intro T15 X15 e15
    refine own_gs 111 [(.ref o), (.ref nx2)] (fun t' k => XS.aloadN X15.here hx rfl (hb hby own_dH_110) rfl rfl  k) ?_
    refine X15.getF hx hZ hown (hw _ (List.mem_of_getElem? (i := 21) rfl)) e15 F_handing (hb hby own_dH_111) ?_
    intro T16 X16 e16
    refine own_gs 115 [(.int ln), (.ref ha), (.ref nx2)] (fun t' k => XS.iloadN X16.here hx rfl (hb hby own_dH_114) rfl  k) ?_
    refine X16.callN hx hZ (xi := (⟨"com/example/vocab_scan/vocabscan/Walk", "walk", "([BI)V"⟩ : MethodName)) (y := (⟨"com/example/vocab_scan/vocabscan/WordEdges", "walk", "([BI)V"⟩ : MethodName)) (C := "com/example/vocab_scan/vocabscan/WordEdges") hown (mvT hZ (hw _ (List.mem_of_getElem? (i := 74) rfl))) (mvT hZ (hw _ (List.mem_of_getElem? (i := 75) rfl))) (mvT hZ (hw _ (List.mem_of_getElem? (i := 76) rfl))) (mvT hZ (hw _ (List.mem_of_getElem? (i := 77) rfl))) (mvT hZ (hw _ (List.mem_of_getElem? (i := 34) rfl))) (mvT hZ (hw _ (List.mem_of_getElem? (i := 78) rfl))) (mvT hZ (hw _ (List.mem_of_getElem? (i := 79) rfl))) (mvT hZ (hw _ (List.mem_of_getElem? (i := 80) rfl))) (hw _ (List.mem_of_getElem? (i := 9) rfl)) (hw _ (List.mem_of_getElem? (i := 36) rfl)) (by decide) e16 HW2.1 [(.ref ha), (.int ln)] [] (own_w0C l Z a0 hw [] h14 n0 hn nx2 rb hbq ha wk2 0 0 (rr - 4) 16 ln fb (fun x => if x < rr - 4 then f x else fh x) rfl hln (by omega) (by omega) g_nx2 g_rb ne_nx2_rb (Ne.symm ne_ha_nx2) (Ne.symm ne_ha_rb) HW2 A_rb A_ha (by omega)) 0 (by decide) (by decide) (Nat.le_of_eq rfl) (by decide) (by decide) (by rw [hml]; rfl) (lenOf own_pd5 rfl) rfl (hb hby own_dH_115) ?_
    rintro T17 _ X17 ⟨rfl, hn17, K17, -⟩
    replace E_o := E_o.keep K17
    replace F_ring := F_ring.keep K17 (ninS ne_o_nx2 (ninS ne_o_rb nin0))
    replace F_behind := F_behind.keep K17 (ninS ne_o_nx2 (ninS ne_o_rb nin0))
    replace F_handing := F_handing.keep K17 (ninS ne_o_nx2 (ninS ne_o_rb nin0))
    replace F_walk := F_walk.keep K17 (ninS ne_o_nx2 (ninS ne_o_rb nin0))
    replace F_received := F_received.keep K17 (ninS ne_o_nx2 (ninS ne_o_rb nin0))
    replace F_handed := F_handed.keep K17 (ninS ne_o_nx2 (ninS ne_o_rb nin0))
    replace A_ra := A_ra.keep K17 (ninS ne_ra_nx2 (ninS ne_ra_rb nin0))
    replace A_ha := A_ha.keep K17 (ninS ne_ha_nx2 (ninS ne_ha_rb nin0))
    replace hn := Nat.le_trans hn K17.1
    replace hK := hK.trans K17 (allS (Or.inl (List.mem_of_getElem? (i := 2) rfl)) (allS (Or.inl (List.mem_of_getElem? (i := 3) rfl)) all0))
    show own_G p e below s _ _ _ T17 (mkF m 120 #[rv o, jv to, .second, iv ln, iv (0 : Int32), iv ln] [])
    refine X17.retV hx hlk hret (hb hby own_dH_120) ?_ (by decide) (by decide)
    exact ⟨rfl, hn, hK, _, ⟨E_o, F_ring, F_behind, F_handing, F_walk, F_received, F_handed⟩⟩
  · skip
    refine own_gs 120 [] (fun t' k => XS.ifYes X1.here hx rfl (pc0 := 6) (pc' := 120) rfl (hb hby own_dH_6) rfl ((if0 _ _).trans (flt (fun q' => hc6 ((lw_gt to (0 : Int64)).mp q'))).2.2.2) (by decide) (by decide) k) ?_
    refine X1.retV hx hlk hret (hb hby own_dH_120) ?_ (by decide) (by decide)
    rw [e1]
    exact ⟨rfl, hn, hK, _, ⟨E_o, F_ring, F_behind, F_handing, F_walk, F_received, F_handed⟩⟩

theorem own_pn_own_w1C : plainFor (⟨"com/example/vocab_scan/vocabscan/WordEdges", "walk", "([BI)V"⟩ : MethodName) = true := plainFor_of_name (show plainName "com/example/vocab_scan/vocabscan/WordEdges" = true by first | (simp [plainName, overriddenIn]; done) | decide +kernel)
set_option maxRecDepth 65536 in
set_option maxHeartbeats 40000000 in
theorem own_w1C (l : Launch) (Z : State) (a0 : Array Value) (hw : ∀ d ∈ tables_1, d.before a0 Z = true) (ws : List Jvm.Cond) (h0 : Heap) (n0 : Nat) (Z0 : n0 ≤ h0.size) (o ra ha pa : Addr) (nx2 rb hbq : Addr) (wk2 : Value) (fb fh : Nat → Int32) (rcv : Int64) (r qn pl : Nat) (q : Int32) (f g : Nat → Int32) (hr : rcv.toInt = r) (hq : q.toInt = qn) (hrq : r + qn ≤ 8) (hpl : qn ≤ pl) (g_o : n0 ≤ o) (g_ra : n0 ≤ ra) (ne_o_ra : o ≠ ra) (ne_o_pa : o ≠ pa) (ne_ra_pa : ra ≠ pa) (HW : own_W Z h0 o ra ha (.ref nx2) rcv 0) (A_ra : own_B Z h0 ra 16 f) (A_pa : own_B Z h0 pa pl g)  (g_ha : n0 ≤ ha) (g_nx2 : n0 ≤ nx2) (g_rb : n0 ≤ rb) (ne_o_ha : o ≠ ha) (ne_o_nx2 : o ≠ nx2) (ne_o_rb : o ≠ rb) (ne_ra_ha : ra ≠ ha) (ne_ra_nx2 : ra ≠ nx2) (ne_ra_rb : ra ≠ rb) (ne_ha_nx2 : ha ≠ nx2) (ne_ha_rb : ha ≠ rb) (ne_nx2_rb : nx2 ≠ rb) (A_ha : own_B Z h0 ha 16 fh) (HW2 : own_W Z h0 nx2 rb hbq wk2 0 0) (A_rb : own_B Z h0 rb 16 fb)  :
    own_C l Z (⟨"com/example/vocab_scan/vocabscan/WordEdges", "walk", "([BI)V"⟩ : MethodName) prog_95_method_6_code 5 none ws ({ frames := 4, cells := 0, slots := 0, locals := 68 } : Room) #[(.ref o), (.ref pa), (.int q)] h0 (own_Q n0 (fun v h => v = none ∧ n0 ≤ h.size ∧ ∃ rv2 hd2 : Int64, rv2.toInt = ((r + qn : Nat) : Int) ∧ own_W Z h o ra ha (.ref nx2) rv2 hd2 ∧ own_B Z h ra 16 (fun x => if r ≤ x ∧ x < r + qn then g (x - r) else f x))) := by
  refine own_met own_pn_own_w1C #[rv o, rv pa, iv q, .unset, .unset] (fun m => by first | (simp [entryFrame, mkF, argsToLocals, Value.category]; done) | rfl) ?_
  intro p e s m below meth c s₁ hx hby hml hown hret hlk hZ hnm X0 e0
  replace X0 := own_S.of X0 (n0)
  have hn : n0 ≤ h0.size := Z0
  obtain ⟨E_o, F_ring, F_behind, F_handing, F_walk, F_received, F_handed⟩ := HW
  refine own_gs 1 [(.ref o)] (fun t' k => XS.aloadN X0.here hx rfl (hb hby own_dW_0) rfl rfl  k) ?_
  refine own_gs 2 [(.int q), (.ref o)] (fun t' k => XS.iloadN X0.here hx rfl (hb hby own_dW_1) rfl  k) ?_
  refine X0.callR hx hZ (y := (⟨"com/example/vocab_scan/vocabscan/WordEdges", "makeRoom", "(I)V"⟩ : MethodName)) hown (hw _ (List.mem_of_getElem? (i := 37) rfl)) (hw _ (List.mem_of_getElem? (i := 8) rfl)) (hw _ (List.mem_of_getElem? (i := 39) rfl)) (hw _ (List.mem_of_getElem? (i := 38) rfl)) (hw _ (List.mem_of_getElem? (i := 9) rfl)) (hw _ (List.mem_of_getElem? (i := 40) rfl)) (by decide) e0 E_o [(.int q)] [] (own_mrC l Z a0 hw [] h0 n0 hn o ra ha (.ref nx2) rcv r qn q f hr hq hrq ⟨E_o, F_ring, F_behind, F_handing, F_walk, F_received, F_handed⟩ A_ra) 0 (by decide) (by decide) (Nat.le_of_eq rfl) (by decide) (by decide) (by rw [hml]; rfl) (lenOf own_pd1 rfl) rfl (hb hby own_dW_2) ?_
  rintro T1 _ X1 ⟨rfl, e1⟩
  show own_G p e below s _ _ _ T1 (mkF m 5 #[rv o, rv pa, iv q, .unset, .unset] [])
  refine own_gs 6 [(.ref o)] (fun t' k => XS.aloadN X1.here hx rfl (hb hby own_dW_5) rfl rfl  k) ?_
  refine own_gs 7 [(.ref o), (.ref o)] (fun t' k => XS.aloadN X1.here hx rfl (hb hby own_dW_6) rfl rfl  k) ?_
  refine X1.getF hx hZ hown (hw _ (List.mem_of_getElem? (i := 47) rfl)) e1 F_received (hb hby own_dW_7) ?_
  intro T2 X2 e2
  refine X2.callR hx hZ (y := (⟨"com/example/vocab_scan/vocabscan/WordEdges", "slot", "(J)I"⟩ : MethodName)) hown (hw _ (List.mem_of_getElem? (i := 49) rfl)) (hw _ (List.mem_of_getElem? (i := 8) rfl)) (hw _ (List.mem_of_getElem? (i := 51) rfl)) (hw _ (List.mem_of_getElem? (i := 50) rfl)) (hw _ (List.mem_of_getElem? (i := 9) rfl)) (hw _ (List.mem_of_getElem? (i := 52) rfl)) (by decide) e2 E_o [(.long rcv)] [] (own_slC l Z a0 hw [] h0 n0 hn o ra f rcv F_ring A_ra) 0 (by decide) (by decide) (Nat.le_of_eq rfl) (by decide) (by decide) (by rw [hml]; rfl) (lenOf own_pd2 rfl) rfl (hb hby own_dW_10) ?_
  rintro T3 _ X3 ⟨rfl, e3⟩
  show own_G p e below s _ _ _ T3 (mkF m 13 #[rv o, rv pa, iv q, .unset, .unset] [(.int (rcv.toInt32 &&& (15 : Int32)))])
  have hsl : ((rcv.toInt32 &&& (15 : Int32))).toInt = (r : Int) := by rw [Jvm.Kit.i32_mask _ 15 (k := 4) (by decide) (by decide), Jvm.Kit.i32_of_i64 (by omega) (by omega), hr]; omega
  generalize (rcv.toInt32 &&& (15 : Int32)) = sl at hsl ⊢
  refine own_go (mkF m 14 #[rv o, rv pa, iv q, iv sl, .unset] []) (fun t' k => XS.istoreN X3.here hx rfl (hb hby own_dW_13) rfl rfl k) ?_
  refine own_gs 15 [(.int q)] (fun t' k => XS.iloadN X3.here hx rfl (hb hby own_dW_14) rfl  k) ?_
  refine own_gs 16 [(.ref o), (.int q)] (fun t' k => XS.aloadN X3.here hx rfl (hb hby own_dW_15) rfl rfl  k) ?_
  refine X3.getF hx hZ hown (hw _ (List.mem_of_getElem? (i := 16) rfl)) e3 F_ring (hb hby own_dW_16) ?_
  intro T4 X4 e4
  refine X4.alenB hx hZ e4 A_ra (hb hby own_dW_19) ?_
  show own_G p e below s _ _ _ T4 (mkF m 20 #[rv o, rv pa, iv q, iv sl, .unset] [(.int (16 : Int32)), (.int q)])
  refine own_gs 21 [(.int sl), (.int (16 : Int32)), (.int q)] (fun t' k => XS.iloadN X4.here hx rfl (hb hby own_dW_20) rfl  k) ?_
  refine own_gs 22 [(.int ((16 : Int32) - sl)), (.int q)] (fun t' k => XS.isub X4.here hx rfl (hb hby own_dW_21) rfl k) ?_
  refine X4.callP hx hZ (y := (⟨"java/lang/Math", "min", "(II)I"⟩ : MethodName)) (fr := 0) (lo := 0) (r := (.int (own_min q ((16 : Int32) - sl)))) hown (hw _ (List.mem_of_getElem? (i := 53) rfl)) (hw _ (List.mem_of_getElem? (i := 54) rfl)) (hw _ (List.mem_of_getElem? (i := 45) rfl)) (hw _ (List.mem_of_getElem? (i := 55) rfl)) (by decide) e4 [(.int q), (.int ((16 : Int32) - sl))] [] (own_minC l Z a0 hw [] h0 q ((16 : Int32) - sl)) 0 (by decide) (by decide) (Nat.le_of_eq rfl) (by decide) (by decide) (by rw [hml]; rfl) (lenOf own_pd3 rfl) rfl (hb hby own_dW_22) ?_
  intro T5 X5 e5
  have z16 : (16 : Int32).toInt = 16 := rfl
  rw [own_minq (x := q) (y := (16 : Int32) - sl) (by rw [Jvm.Kit.i32_sub (by omega) (by omega)]; omega)]
  refine own_go (mkF m 27 #[rv o, rv pa, iv q, iv sl, iv q] []) (fun t' k => XS.istore X5.here hx rfl (hb hby own_dW_25) rfl rfl k) ?_
  refine own_gs 28 [(.ref pa)] (fun t' k => XS.aloadN X5.here hx rfl (hb hby own_dW_27) rfl rfl  k) ?_
  refine own_gs 29 [(.int (0 : Int32)), (.ref pa)] (fun t' k => XS.iconst X5.here hx rfl (hb hby own_dW_28) k) ?_
  refine own_gs 30 [(.ref o), (.int (0 : Int32)), (.ref pa)] (fun t' k => XS.aloadN X5.here hx rfl (hb hby own_dW_29) rfl rfl  k) ?_
  refine X5.getF hx hZ hown (hw _ (List.mem_of_getElem? (i := 16) rfl)) e5 F_ring (hb hby own_dW_30) ?_
  intro T6 X6 e6
  refine own_gs 34 [(.int sl), (.ref ra), (.int (0 : Int32)), (.ref pa)] (fun t' k => XS.iloadN X6.here hx rfl (hb hby own_dW_33) rfl  k) ?_
  refine own_gs 36 [(.int q), (.int sl), (.ref ra), (.int (0 : Int32)), (.ref pa)] (fun t' k => XS.iload X6.here hx rfl (hb hby own_dW_34) rfl  k) ?_
  refine X6.acopy hx hZ hown (hw _ (List.mem_of_getElem? (i := 56) rfl)) (hw _ (List.mem_of_getElem? (i := 59) rfl)) (hw _ (List.mem_of_getElem? (i := 57) rfl)) (hw _ (List.mem_of_getElem? (i := 58) rfl)) e6 A_pa A_ra g_ra 0 r qn (by decide) hsl hq (by omega) (by omega) (by rw [hml]; rfl) (hb hby own_dW_36) (by decide) 0 (Nat.le_of_eq rfl) (by decide) ?_
  intro T7 h7 X7 e7 K7 A7
  replace E_o := E_o.keep K7
  replace F_ring := F_ring.keep K7 (ninS ne_o_ra nin0)
  replace F_behind := F_behind.keep K7 (ninS ne_o_ra nin0)
  replace F_handing := F_handing.keep K7 (ninS ne_o_ra nin0)
  replace F_walk := F_walk.keep K7 (ninS ne_o_ra nin0)
  replace F_received := F_received.keep K7 (ninS ne_o_ra nin0)
  replace F_handed := F_handed.keep K7 (ninS ne_o_ra nin0)
  replace A_pa := A_pa.keep K7 (ninS (Ne.symm ne_ra_pa) nin0)
  replace A_ha := A_ha.keep K7 (ninS (Ne.symm ne_ra_ha) nin0)
  replace HW2 := HW2.keep K7 (ninS (Ne.symm ne_ra_nx2) nin0)
  replace A_rb := A_rb.keep K7 (ninS (Ne.symm ne_ra_rb) nin0)
  replace hn := Nat.le_trans hn K7.1
  replace A_ra : own_B Z h7 ra 16 (fun x => if r ≤ x ∧ x < r + qn then g (x - r) else f x) := A7.eq (fun x hx' => by (try dsimp only); split <;> first | rfl | (congr 1; omega))
  refine own_gs 40 [(.ref pa)] (fun t' k => XS.aloadN X7.here hx rfl (hb hby own_dW_39) rfl rfl  k) ?_
  refine own_gs 42 [(.int q), (.ref pa)] (fun t' k => XS.iload X7.here hx rfl (hb hby own_dW_40) rfl  k) ?_
  refine own_gs 43 [(.ref o), (.int q), (.ref pa)] (fun t' k => XS.aloadN X7.here hx rfl (hb hby own_dW_42) rfl rfl  k) ?_
  refine X7.getF hx hZ hown (hw _ (List.mem_of_getElem? (i := 16) rfl)) e7 F_ring (hb hby own_dW_43) ?_
  intro T8 X8 e8
  refine own_gs 47 [(.int (0 : Int32)), (.ref ra), (.int q), (.ref pa)] (fun t' k => XS.iconst X8.here hx rfl (hb hby own_dW_46) k) ?_
  refine own_gs 48 [(.int q), (.int (0 : Int32)), (.ref ra), (.int q), (.ref pa)] (fun t' k => XS.iloadN X8.here hx rfl (hb hby own_dW_47) rfl  k) ?_
  refine own_gs 50 [(.int q), (.int q), (.int (0 : Int32)), (.ref ra), (.int q), (.ref pa)] (fun t' k => XS.iload X8.here hx rfl (hb hby own_dW_48) rfl  k) ?_
  refine own_gs 51 [(.int (q - q)), (.int (0 : Int32)), (.ref ra), (.int q), (.ref pa)] (fun t' k => XS.isub X8.here hx rfl (hb hby own_dW_50) rfl k) ?_
  have hq0 : ((q - q)).toInt = 0 := by rw [Jvm.Kit.i32_sub (by omega) (by omega)]; omega
  generalize (q - q) = q0 at hq0 ⊢
  refine X8.acopy hx hZ hown (hw _ (List.mem_of_getElem? (i := 56) rfl)) (hw _ (List.mem_of_getElem? (i := 59) rfl)) (hw _ (List.mem_of_getElem? (i := 57) rfl)) (hw _ (List.mem_of_getElem? (i := 58) rfl)) e8 A_pa A_ra g_ra qn 0 0 hq (by decide) hq0 (by omega) (by omega) (by rw [hml]; rfl) (hb hby own_dW_51) (by decide) 0 (Nat.le_of_eq rfl) (by decide) ?_
  intro T9 h9 X9 e9 K9 A9
  replace E_o := E_o.keep K9
  replace F_ring := F_ring.keep K9 (ninS ne_o_ra nin0)
  replace F_behind := F_behind.keep K9 (ninS ne_o_ra nin0)
  replace F_handing := F_handing.keep K9 (ninS ne_o_ra nin0)
  replace F_walk := F_walk.keep K9 (ninS ne_o_ra nin0)
  replace F_received := F_received.keep K9 (ninS ne_o_ra nin0)
  replace F_handed := F_handed.keep K9 (ninS ne_o_ra nin0)
  replace A_pa := A_pa.keep K9 (ninS (Ne.symm ne_ra_pa) nin0)
  replace A_ha := A_ha.keep K9 (ninS (Ne.symm ne_ra_ha) nin0)
  replace HW2 := HW2.keep K9 (ninS (Ne.symm ne_ra_nx2) nin0)
  replace A_rb := A_rb.keep K9 (ninS (Ne.symm ne_ra_rb) nin0)
  replace hn := Nat.le_trans hn K9.1
  replace A_ra : own_B Z h9 ra 16 (fun x => if r ≤ x ∧ x < r + qn then g (x - r) else f x) := A9.eq (fun x hx' => by (try dsimp only); rw [if_neg (by omega)])
  refine own_gs 55 [(.ref o)] (fun t' k => XS.aloadN X9.here hx rfl (hb hby own_dW_54) rfl rfl  k) ?_
  refine own_gs 56 [(.ref o), (.ref o)] (fun t' k => XS.dup X9.here hx rfl (hb hby own_dW_55) rfl rfl k) ?_
  refine X9.getF hx hZ hown (hw _ (List.mem_of_getElem? (i := 47) rfl)) e9 F_received (hb hby own_dW_56) ?_
  intro T10 X10 e10
  refine own_gs 60 [(.int q), (.long rcv), (.ref o)] (fun t' k => XS.iloadN X10.here hx rfl (hb hby own_dW_59) rfl  k) ?_
  refine own_gs 61 [(.long (q.toInt64)), (.long rcv), (.ref o)] (fun t' k => XS.i2l X10.here hx rfl (hb hby own_dW_60) rfl k) ?_
  refine own_gs 62 [(.long (rcv + (q.toInt64))), (.ref o)] (fun t' k => XS.ladd X10.here hx rfl (hb hby own_dW_61) rfl k) ?_
  have hr2 : ((rcv + (q.toInt64))).toInt = ((r + qn : Nat) : Int) := by rw [Jvm.Kit.i64_add (by rw [Int32.toInt_toInt64]; omega) (by rw [Int32.toInt_toInt64]; omega), Int32.toInt_toInt64]; omega
  generalize (rcv + (q.toInt64)) = rv2 at hr2 ⊢
  refine X10.putF hx hZ hown (hw _ (List.mem_of_getElem? (i := 47) rfl)) e10 F_received E_o g_o (Or.inl (hw _ (List.mem_of_getElem? (i := 48) rfl))) (hw _ (List.mem_of_getElem? (i := 8) rfl)) (ty := .long) (by decide) rfl rfl (hb hby own_dW_62) ?_
  intro T11 h11 X11 e11 W11
  replace E_o := E_o.wr W11
  replace F_ring := F_ring.other W11 (Or.inr (own_sn_WordEdges_ring_received hw))
  replace F_behind := F_behind.other W11 (Or.inr (own_sn_WordEdges_behind_received hw))
  replace F_handing := F_handing.other W11 (Or.inr (own_sn_WordEdges_handing_received hw))
  replace F_walk := F_walk.other W11 (Or.inr (own_sn_WordEdges_walk_received hw))
  replace F_received := F_received.same W11
  replace F_handed := F_handed.other W11 (Or.inr (own_sn_WordEdges_handed_received hw))
  replace A_ra := A_ra.other W11 (Ne.symm ne_o_ra)
  replace A_pa := A_pa.other W11 (Ne.symm ne_o_pa)
  replace A_ha := A_ha.other W11 (Ne.symm ne_o_ha)
  replace HW2 := HW2.other W11 (Ne.symm ne_o_nx2)
  replace A_rb := A_rb.other W11 (Ne.symm ne_o_rb)
  replace hn := Nat.le_trans hn (Keep.of_wr W11).1
  clear W11 X10 e10
  refine own_gs 66 [(.ref o)] (fun t' k => XS.aloadN X11.here hx rfl (hb hby own_dW_65) rfl rfl  k) ?_
  refine own_gs 67 [(.ref o), (.ref o)] (fun t' k => XS.aloadN X11.here hx rfl (hb hby own_dW_66) rfl rfl  k) ?_
  refine X11.getF hx hZ hown (hw _ (List.mem_of_getElem? (i := 47) rfl)) e11 F_received (hb hby own_dW_67) ?_
  intro T12 X12 e12
  refine own_gs 73 [(.long (4 : Int64)), (.long rv2), (.ref o)] (fun t' k => X12.ldc2Long hx hown (mvT hZ (hw _ (List.mem_of_getElem? (i := 18) rfl))) (g := (mkF m 70 #[rv o, rv pa, iv q, iv sl, iv q] [(.long rv2), (.ref o)])) rfl (hb hby own_dW_70) _ k) ?_
  refine own_gs 74 [(.long (rv2 - (4 : Int64))), (.ref o)] (fun t' k => XS.lsub X12.here hx rfl (hb hby own_dW_73) rfl k) ?_
  have hto : ((rv2 - (4 : Int64))).toInt = ((r + qn : Nat) : Int) - 4 := by have e4 : (4 : Int64).toInt = 4 := rfl; rw [Jvm.Kit.i64_sub (by omega) (by omega)]; omega
  generalize (rv2 - (4 : Int64)) = to at hto ⊢
  refine X12.callR hx hZ (y := (⟨"com/example/vocab_scan/vocabscan/WordEdges", "handOn", "(J)V"⟩ : MethodName)) hown (hw _ (List.mem_of_getElem? (i := 60) rfl)) (hw _ (List.mem_of_getElem? (i := 8) rfl)) (hw _ (List.mem_of_getElem? (i := 62) rfl)) (hw _ (List.mem_of_getElem? (i := 61) rfl)) (hw _ (List.mem_of_getElem? (i := 9) rfl)) (hw _ (List.mem_of_getElem? (i := 63) rfl)) (by decide) e12 E_o [(.long to)] [] (own_h1C l Z a0 hw [] h11 n0 hn o ra ha nx2 rb hbq wk2 rv2 to (r + qn) (fun x => if r ≤ x ∧ x < r + qn then g (x - r) else f x) fb fh hto hrq g_o g_ha g_nx2 g_rb ne_o_ra ne_o_ha ne_o_nx2 ne_o_rb ne_ra_ha ne_ra_nx2 ne_ra_rb ne_ha_nx2 ne_ha_rb ne_nx2_rb ⟨E_o, F_ring, F_behind, F_handing, F_walk, F_received, F_handed⟩ A_ra A_ha HW2 A_rb) 0 (by decide) (by decide) (Nat.le_of_eq rfl) (by decide) (by decide) (by rw [hml]; rfl) (lenOf own_pd4 rfl) rfl (hb hby own_dW_74) ?_
  rintro T13 _ X13 ⟨rfl, hn13, K13, hd2, HWe⟩
  replace A_ra := A_ra.keep K13 (ninS (Ne.symm ne_o_ra) (ninS ne_ra_ha (ninS ne_ra_nx2 (ninS ne_ra_rb nin0))))
  replace hn := hn13
  show own_G p e below s _ _ _ T13 (mkF m 77 #[rv o, rv pa, iv q, iv sl, iv q] [])
  refine X13.retV hx hlk hret (hb hby own_dW_77) ?_ (by decide) (by decide)
  exact ⟨rfl, hn, rv2, hd2, hr2, HWe, A_ra⟩

def own_bb (x : Int64) (rcv : Int64) (f : Nat → Int32) : Int64 := (if x < (4 : Int64) then (-1 : Int64) else (if rcv < x then (-1 : Int64) else ((((((((f ((((x.toInt32) - (4 : Int32)) &&& (15 : Int32))).toInt.toNat) &&& (255 : Int32)) <<< ((24 : Int32) &&& 31)) ||| (((f (((((x.toInt32) - (4 : Int32)) + (1 : Int32)) &&& (15 : Int32))).toInt.toNat) &&& (255 : Int32)) <<< ((16 : Int32) &&& 31))) ||| (((f (((((x.toInt32) - (4 : Int32)) + (2 : Int32)) &&& (15 : Int32))).toInt.toNat) &&& (255 : Int32)) <<< ((8 : Int32) &&& 31))) ||| ((f (((((x.toInt32) - (4 : Int32)) + (3 : Int32)) &&& (15 : Int32))).toInt.toNat) &&& (255 : Int32))).toInt64) &&& (4294967295 : Int64))))
theorem own_dB_0 : decode prog_95_method_12_code 0 = .ok (.ldc2_w 103, 3) := by decide +kernel
theorem own_dB_3 : decode prog_95_method_12_code 3 = .ok (.lstore_n 3, 1) := by decide +kernel
theorem own_dB_4 : decode prog_95_method_12_code 4 = .ok (.lload_n 1, 1) := by decide +kernel
theorem own_dB_5 : decode prog_95_method_12_code 5 = .ok (.ldc2_w 13, 3) := by decide +kernel
theorem own_dB_8 : decode prog_95_method_12_code 8 = .ok (.lcmp, 1) := by decide +kernel
theorem own_dB_9 : decode prog_95_method_12_code 9 = .ok (.ifCond .lt 109, 3) := by decide +kernel
theorem own_dB_12 : decode prog_95_method_12_code 12 = .ok (.lload_n 1, 1) := by decide +kernel
theorem own_dB_13 : decode prog_95_method_12_code 13 = .ok (.aload_n 0, 1) := by decide +kernel
theorem own_dB_14 : decode prog_95_method_12_code 14 = .ok (.getfield 45, 3) := by decide +kernel
theorem own_dB_17 : decode prog_95_method_12_code 17 = .ok (.lcmp, 1) := by decide +kernel
theorem own_dB_18 : decode prog_95_method_12_code 18 = .ok (.ifCond .gt 100, 3) := by decide +kernel
theorem own_dB_21 : decode prog_95_method_12_code 21 = .ok (.aload_n 0, 1) := by decide +kernel
theorem own_dB_22 : decode prog_95_method_12_code 22 = .ok (.getfield 7, 3) := by decide +kernel
theorem own_dB_25 : decode prog_95_method_12_code 25 = .ok (.arraylength, 1) := by decide +kernel
theorem own_dB_26 : decode prog_95_method_12_code 26 = .ok (.iconst 1, 1) := by decide +kernel
theorem own_dB_27 : decode prog_95_method_12_code 27 = .ok (.isub, 1) := by decide +kernel
theorem own_dB_28 : decode prog_95_method_12_code 28 = .ok (.istore 5, 2) := by decide +kernel
theorem own_dB_30 : decode prog_95_method_12_code 30 = .ok (.lload_n 1, 1) := by decide +kernel
theorem own_dB_31 : decode prog_95_method_12_code 31 = .ok (.l2i, 1) := by decide +kernel
theorem own_dB_32 : decode prog_95_method_12_code 32 = .ok (.iconst 4, 1) := by decide +kernel
theorem own_dB_33 : decode prog_95_method_12_code 33 = .ok (.isub, 1) := by decide +kernel
theorem own_dB_34 : decode prog_95_method_12_code 34 = .ok (.istore 6, 2) := by decide +kernel
theorem own_dB_36 : decode prog_95_method_12_code 36 = .ok (.aload_n 0, 1) := by decide +kernel
theorem own_dB_37 : decode prog_95_method_12_code 37 = .ok (.getfield 7, 3) := by decide +kernel
theorem own_dB_40 : decode prog_95_method_12_code 40 = .ok (.iload 6, 2) := by decide +kernel
theorem own_dB_42 : decode prog_95_method_12_code 42 = .ok (.iload 5, 2) := by decide +kernel
theorem own_dB_44 : decode prog_95_method_12_code 44 = .ok (.iand, 1) := by decide +kernel
theorem own_dB_45 : decode prog_95_method_12_code 45 = .ok (.baload, 1) := by decide +kernel
theorem own_dB_46 : decode prog_95_method_12_code 46 = .ok (.sipush 255, 3) := by decide +kernel
theorem own_dB_49 : decode prog_95_method_12_code 49 = .ok (.iand, 1) := by decide +kernel
theorem own_dB_50 : decode prog_95_method_12_code 50 = .ok (.bipush 24, 2) := by decide +kernel
theorem own_dB_52 : decode prog_95_method_12_code 52 = .ok (.ishl, 1) := by decide +kernel
theorem own_dB_53 : decode prog_95_method_12_code 53 = .ok (.aload_n 0, 1) := by decide +kernel
theorem own_dB_54 : decode prog_95_method_12_code 54 = .ok (.getfield 7, 3) := by decide +kernel
theorem own_dB_57 : decode prog_95_method_12_code 57 = .ok (.iload 6, 2) := by decide +kernel
theorem own_dB_59 : decode prog_95_method_12_code 59 = .ok (.iconst 1, 1) := by decide +kernel
theorem own_dB_60 : decode prog_95_method_12_code 60 = .ok (.iadd, 1) := by decide +kernel
theorem own_dB_61 : decode prog_95_method_12_code 61 = .ok (.iload 5, 2) := by decide +kernel
theorem own_dB_63 : decode prog_95_method_12_code 63 = .ok (.iand, 1) := by decide +kernel
theorem own_dB_64 : decode prog_95_method_12_code 64 = .ok (.baload, 1) := by decide +kernel
theorem own_dB_65 : decode prog_95_method_12_code 65 = .ok (.sipush 255, 3) := by decide +kernel
theorem own_dB_68 : decode prog_95_method_12_code 68 = .ok (.iand, 1) := by decide +kernel
theorem own_dB_69 : decode prog_95_method_12_code 69 = .ok (.bipush 16, 2) := by decide +kernel
theorem own_dB_71 : decode prog_95_method_12_code 71 = .ok (.ishl, 1) := by decide +kernel
theorem own_dB_72 : decode prog_95_method_12_code 72 = .ok (.ior, 1) := by decide +kernel
theorem own_dB_73 : decode prog_95_method_12_code 73 = .ok (.aload_n 0, 1) := by decide +kernel
theorem own_dB_74 : decode prog_95_method_12_code 74 = .ok (.getfield 7, 3) := by decide +kernel
theorem own_dB_77 : decode prog_95_method_12_code 77 = .ok (.iload 6, 2) := by decide +kernel
theorem own_dB_79 : decode prog_95_method_12_code 79 = .ok (.iconst 2, 1) := by decide +kernel
theorem own_dB_80 : decode prog_95_method_12_code 80 = .ok (.iadd, 1) := by decide +kernel
theorem own_dB_81 : decode prog_95_method_12_code 81 = .ok (.iload 5, 2) := by decide +kernel
theorem own_dB_83 : decode prog_95_method_12_code 83 = .ok (.iand, 1) := by decide +kernel
theorem own_dB_84 : decode prog_95_method_12_code 84 = .ok (.baload, 1) := by decide +kernel
theorem own_dB_85 : decode prog_95_method_12_code 85 = .ok (.sipush 255, 3) := by decide +kernel
theorem own_dB_88 : decode prog_95_method_12_code 88 = .ok (.iand, 1) := by decide +kernel
theorem own_dB_89 : decode prog_95_method_12_code 89 = .ok (.bipush 8, 2) := by decide +kernel
theorem own_dB_91 : decode prog_95_method_12_code 91 = .ok (.ishl, 1) := by decide +kernel
theorem own_dB_92 : decode prog_95_method_12_code 92 = .ok (.ior, 1) := by decide +kernel
theorem own_dB_93 : decode prog_95_method_12_code 93 = .ok (.aload_n 0, 1) := by decide +kernel
theorem own_dB_94 : decode prog_95_method_12_code 94 = .ok (.getfield 7, 3) := by decide +kernel
theorem own_dB_97 : decode prog_95_method_12_code 97 = .ok (.iload 6, 2) := by decide +kernel
theorem own_dB_99 : decode prog_95_method_12_code 99 = .ok (.iconst 3, 1) := by decide +kernel
theorem own_dB_100 : decode prog_95_method_12_code 100 = .ok (.iadd, 1) := by decide +kernel
theorem own_dB_101 : decode prog_95_method_12_code 101 = .ok (.iload 5, 2) := by decide +kernel
theorem own_dB_103 : decode prog_95_method_12_code 103 = .ok (.iand, 1) := by decide +kernel
theorem own_dB_104 : decode prog_95_method_12_code 104 = .ok (.baload, 1) := by decide +kernel
theorem own_dB_105 : decode prog_95_method_12_code 105 = .ok (.sipush 255, 3) := by decide +kernel
theorem own_dB_108 : decode prog_95_method_12_code 108 = .ok (.iand, 1) := by decide +kernel
theorem own_dB_109 : decode prog_95_method_12_code 109 = .ok (.ior, 1) := by decide +kernel
theorem own_dB_110 : decode prog_95_method_12_code 110 = .ok (.i2l, 1) := by decide +kernel
theorem own_dB_111 : decode prog_95_method_12_code 111 = .ok (.lstore_n 3, 1) := by decide +kernel
theorem own_dB_112 : decode prog_95_method_12_code 112 = .ok (.lload_n 3, 1) := by decide +kernel
theorem own_dB_113 : decode prog_95_method_12_code 113 = .ok (.ldc2_w 105, 3) := by decide +kernel
theorem own_dB_116 : decode prog_95_method_12_code 116 = .ok (.land, 1) := by decide +kernel
theorem own_dB_117 : decode prog_95_method_12_code 117 = .ok (.lstore_n 3, 1) := by decide +kernel
theorem own_dB_118 : decode prog_95_method_12_code 118 = .ok (.lload_n 3, 1) := by decide +kernel
theorem own_dB_119 : decode prog_95_method_12_code 119 = .ok (.lreturn, 1) := by decide +kernel
theorem own_pn_own_bbC : plainFor (⟨"com/example/vocab_scan/vocabscan/WordEdges", "bytesBefore", "(J)J"⟩ : MethodName) = true := plainFor_of_name (show plainName "com/example/vocab_scan/vocabscan/WordEdges" = true by first | (simp [plainName, overriddenIn]; done) | decide +kernel)
set_option maxRecDepth 65536 in
set_option maxHeartbeats 40000000 in
theorem own_bbC (l : Launch) (Z : State) (a0 : Array Value) (hw : ∀ d ∈ tables_1, d.before a0 Z = true) (ws : List Jvm.Cond) (h0 : Heap) (n0 : Nat) (Z0 : n0 ≤ h0.size) (o ra : Addr) (f : Nat → Int32) (x rcv : Int64) (F_ring : Fld Z h0 o "com/example/vocab_scan/vocabscan/WordEdges" "ring" "[B" (.ref ra)) (F_received : Fld Z h0 o "com/example/vocab_scan/vocabscan/WordEdges" "received" "J" (.long rcv)) (A_ra : own_B Z h0 ra 16 f)  :
    own_C l Z (⟨"com/example/vocab_scan/vocabscan/WordEdges", "bytesBefore", "(J)J"⟩ : MethodName) prog_95_method_12_code 7 (some .long) ws ({ frames := 0, cells := 0, slots := 0, locals := 0 } : Room) #[(.ref o), (.long x)] h0 (own_Q n0 (fun v h => v = some (.long (own_bb x rcv f)) ∧ h = h0)) := by
  refine own_met own_pn_own_bbC #[rv o, jv x, .second, .unset, .unset, .unset, .unset] (fun m => by first | (simp [entryFrame, mkF, argsToLocals, Value.category]; done) | rfl) ?_
  intro p e s m below meth c s₁ hx hby hml hown hret hlk hZ hnm X0 e0
  replace X0 := own_S.of X0 (n0)
  have hn : n0 ≤ h0.size := Z0
  refine own_gs 3 [(.long (-1 : Int64))] (fun t' k => X0.ldc2Long hx hown (mvT hZ (hw _ (List.mem_of_getElem? (i := 73) rfl))) (g := (mkF m 0 #[rv o, jv x, .second, .unset, .unset, .unset, .unset] [])) rfl (hb hby own_dB_0) _ k) ?_
  refine own_go (mkF m 4 #[rv o, jv x, .second, jv (-1 : Int64), .second, .unset, .unset] []) (fun t' k => XS.lstoreN X0.here hx rfl (hb hby own_dB_3) rfl rfl k) ?_
  refine own_gs 5 [(.long x)] (fun t' k => XS.lloadN X0.here hx rfl (hb hby own_dB_4) rfl  k) ?_
  refine own_gs 8 [(.long (4 : Int64)), (.long x)] (fun t' k => X0.ldc2Long hx hown (mvT hZ (hw _ (List.mem_of_getElem? (i := 18) rfl))) (g := (mkF m 5 #[rv o, jv x, .second, jv (-1 : Int64), .second, .unset, .unset] [(.long x)])) rfl (hb hby own_dB_5) _ k) ?_
  refine own_gs 9 [(.int (lcmpW x (4 : Int64)))] (fun t' k => XS.lcmp X0.here hx rfl (hb hby own_dB_8) rfl k) ?_
  by_cases hc9 : x < (4 : Int64)
  · skip
    refine own_gs 118 [] (fun t' k => XS.ifYes X0.here hx rfl (pc0 := 9) (pc' := 118) rfl (hb hby own_dB_9) rfl ((if0 _ _).trans (tlt ((lw_lt x (4 : Int64)).mpr hc9)).1) (by decide) (by decide) k) ?_
    refine own_gs 119 [(.long (-1 : Int64))] (fun t' k => XS.lloadN X0.here hx rfl (hb hby own_dB_118) rfl  k) ?_
    refine X0.retJ hx hlk hret (hb hby own_dB_119) ?_ (by decide) (by decide)
    exact ⟨congrArg (fun z => some (Value.long z)) ((show (own_bb x rcv f) = (-1 : Int64) from ((if_pos hc9).trans rfl)).trans (by rfl : (-1 : Int64) = (-1 : Int64))).symm, e0⟩
  · skip
    refine own_gs 12 [] (fun t' k => XS.ifNo X0.here hx rfl (hb hby own_dB_9) rfl ((if0 _ _).trans (flt (fun q' => hc9 ((lw_lt x (4 : Int64)).mp q'))).1) k) ?_
    refine own_gs 13 [(.long x)] (fun t' k => XS.lloadN X0.here hx rfl (hb hby own_dB_12) rfl  k) ?_
    refine own_gs 14 [(.ref o), (.long x)] (fun t' k => XS.aloadN X0.here hx rfl (hb hby own_dB_13) rfl rfl  k) ?_
    refine X0.getF hx hZ hown (hw _ (List.mem_of_getElem? (i := 47) rfl)) e0 F_received (hb hby own_dB_14) ?_
    intro T1 X1 e1
    refine own_gs 18 [(.int (lcmpW x rcv))] (fun t' k => XS.lcmp X1.here hx rfl (hb hby own_dB_17) rfl k) ?_
    by_cases hc18 : rcv < x
    · skip
      refine own_gs 118 [] (fun t' k => XS.ifYes X1.here hx rfl (pc0 := 18) (pc' := 118) rfl (hb hby own_dB_18) rfl ((if0 _ _).trans (tlt ((lw_gt x rcv).mpr hc18)).2.2.1) (by decide) (by decide) k) ?_
      refine own_gs 119 [(.long (-1 : Int64))] (fun t' k => XS.lloadN X1.here hx rfl (hb hby own_dB_118) rfl  k) ?_
      refine X1.retJ hx hlk hret (hb hby own_dB_119) ?_ (by decide) (by decide)
      exact ⟨congrArg (fun z => some (Value.long z)) ((show (own_bb x rcv f) = (-1 : Int64) from ((if_neg hc9).trans ((if_pos hc18).trans rfl))).trans (by rfl : (-1 : Int64) = (-1 : Int64))).symm, e1⟩
    · skip
      refine own_gs 21 [] (fun t' k => XS.ifNo X1.here hx rfl (hb hby own_dB_18) rfl ((if0 _ _).trans (flt (fun q' => hc18 ((lw_gt x rcv).mp q'))).2.2.1) k) ?_
      refine own_gs 22 [(.ref o)] (fun t' k => XS.aloadN X1.here hx rfl (hb hby own_dB_21) rfl rfl  k) ?_
      refine X1.getF hx hZ hown (hw _ (List.mem_of_getElem? (i := 16) rfl)) e1 F_ring (hb hby own_dB_22) ?_
      intro T2 X2 e2
      refine X2.alenB hx hZ e2 A_ra (hb hby own_dB_25) ?_
      show own_G p e below s _ _ _ T2 (mkF m 26 #[rv o, jv x, .second, jv (-1 : Int64), .second, .unset, .unset] [(.int (16 : Int32))])
      refine own_gs 27 [(.int (1 : Int32)), (.int (16 : Int32))] (fun t' k => XS.iconst X2.here hx rfl (hb hby own_dB_26) k) ?_
      refine own_gs 28 [(.int (15 : Int32))] (fun t' k => XS.isub X2.here hx rfl (hb hby own_dB_27) rfl k) ?_
      refine own_go (mkF m 30 #[rv o, jv x, .second, jv (-1 : Int64), .second, iv (15 : Int32), .unset] []) (fun t' k => XS.istore X2.here hx rfl (hb hby own_dB_28) rfl rfl k) ?_
      refine own_gs 31 [(.long x)] (fun t' k => XS.lloadN X2.here hx rfl (hb hby own_dB_30) rfl  k) ?_
      refine own_gs 32 [(.int (x.toInt32))] (fun t' k => XS.l2i X2.here hx rfl (hb hby own_dB_31) rfl k) ?_
      refine own_gs 33 [(.int (4 : Int32)), (.int (x.toInt32))] (fun t' k => XS.iconst X2.here hx rfl (hb hby own_dB_32) k) ?_
      refine own_gs 34 [(.int ((x.toInt32) - (4 : Int32)))] (fun t' k => XS.isub X2.here hx rfl (hb hby own_dB_33) rfl k) ?_
      refine own_go (mkF m 36 #[rv o, jv x, .second, jv (-1 : Int64), .second, iv (15 : Int32), iv ((x.toInt32) - (4 : Int32))] []) (fun t' k => XS.istore X2.here hx rfl (hb hby own_dB_34) rfl rfl k) ?_
      refine own_gs 37 [(.ref o)] (fun t' k => XS.aloadN X2.here hx rfl (hb hby own_dB_36) rfl rfl  k) ?_
      refine X2.getF hx hZ hown (hw _ (List.mem_of_getElem? (i := 16) rfl)) e2 F_ring (hb hby own_dB_37) ?_
      intro T3 X3 e3
      refine own_gs 42 [(.int ((x.toInt32) - (4 : Int32))), (.ref ra)] (fun t' k => XS.iload X3.here hx rfl (hb hby own_dB_40) rfl  k) ?_
      refine own_gs 44 [(.int (15 : Int32)), (.int ((x.toInt32) - (4 : Int32))), (.ref ra)] (fun t' k => XS.iload X3.here hx rfl (hb hby own_dB_42) rfl  k) ?_
      refine own_gs 45 [(.int (((x.toInt32) - (4 : Int32)) &&& (15 : Int32))), (.ref ra)] (fun t' k => XS.iand X3.here hx rfl (hb hby own_dB_44) rfl k) ?_
      refine X3.ldBf hx hZ e3 A_ra ((((x.toInt32) - (4 : Int32)) &&& (15 : Int32))).toInt.toNat (Int.toNat_of_nonneg (own_m15 _).1).symm (by have := own_m15 ((x.toInt32) - (4 : Int32)); omega) (hb hby own_dB_45) ?_
      show own_G p e below s _ _ _ T3 (mkF m 46 #[rv o, jv x, .second, jv (-1 : Int64), .second, iv (15 : Int32), iv ((x.toInt32) - (4 : Int32))] [(.int (f ((((x.toInt32) - (4 : Int32)) &&& (15 : Int32))).toInt.toNat))])
      refine own_gs 49 [(.int (255 : Int32)), (.int (f ((((x.toInt32) - (4 : Int32)) &&& (15 : Int32))).toInt.toNat))] (fun t' k => XS.sipush X3.here hx rfl (hb hby own_dB_46) k) ?_
      refine own_gs 50 [(.int ((f ((((x.toInt32) - (4 : Int32)) &&& (15 : Int32))).toInt.toNat) &&& (255 : Int32)))] (fun t' k => XS.iand X3.here hx rfl (hb hby own_dB_49) rfl k) ?_
      refine own_gs 52 [(.int (24 : Int32)), (.int ((f ((((x.toInt32) - (4 : Int32)) &&& (15 : Int32))).toInt.toNat) &&& (255 : Int32)))] (fun t' k => XS.bipush X3.here hx rfl (hb hby own_dB_50) k) ?_
      refine own_gs 53 [(.int (((f ((((x.toInt32) - (4 : Int32)) &&& (15 : Int32))).toInt.toNat) &&& (255 : Int32)) <<< ((24 : Int32) &&& 31)))] (fun t' k => XS.ishl X3.here hx rfl (hb hby own_dB_52) rfl k) ?_
      refine own_gs 54 [(.ref o), (.int (((f ((((x.toInt32) - (4 : Int32)) &&& (15 : Int32))).toInt.toNat) &&& (255 : Int32)) <<< ((24 : Int32) &&& 31)))] (fun t' k => XS.aloadN X3.here hx rfl (hb hby own_dB_53) rfl rfl  k) ?_
      refine X3.getF hx hZ hown (hw _ (List.mem_of_getElem? (i := 16) rfl)) e3 F_ring (hb hby own_dB_54) ?_
      intro T4 X4 e4
      refine own_gs 59 [(.int ((x.toInt32) - (4 : Int32))), (.ref ra), (.int (((f ((((x.toInt32) - (4 : Int32)) &&& (15 : Int32))).toInt.toNat) &&& (255 : Int32)) <<< ((24 : Int32) &&& 31)))] (fun t' k => XS.iload X4.here hx rfl (hb hby own_dB_57) rfl  k) ?_
      refine own_gs 60 [(.int (1 : Int32)), (.int ((x.toInt32) - (4 : Int32))), (.ref ra), (.int (((f ((((x.toInt32) - (4 : Int32)) &&& (15 : Int32))).toInt.toNat) &&& (255 : Int32)) <<< ((24 : Int32) &&& 31)))] (fun t' k => XS.iconst X4.here hx rfl (hb hby own_dB_59) k) ?_
      refine own_gs 61 [(.int (((x.toInt32) - (4 : Int32)) + (1 : Int32))), (.ref ra), (.int (((f ((((x.toInt32) - (4 : Int32)) &&& (15 : Int32))).toInt.toNat) &&& (255 : Int32)) <<< ((24 : Int32) &&& 31)))] (fun t' k => XS.iadd X4.here hx rfl (hb hby own_dB_60) rfl k) ?_
      refine own_gs 63 [(.int (15 : Int32)), (.int (((x.toInt32) - (4 : Int32)) + (1 : Int32))), (.ref ra), (.int (((f ((((x.toInt32) - (4 : Int32)) &&& (15 : Int32))).toInt.toNat) &&& (255 : Int32)) <<< ((24 : Int32) &&& 31)))] (fun t' k => XS.iload X4.here hx rfl (hb hby own_dB_61) rfl  k) ?_
      refine own_gs 64 [(.int ((((x.toInt32) - (4 : Int32)) + (1 : Int32)) &&& (15 : Int32))), (.ref ra), (.int (((f ((((x.toInt32) - (4 : Int32)) &&& (15 : Int32))).toInt.toNat) &&& (255 : Int32)) <<< ((24 : Int32) &&& 31)))] (fun t' k => XS.iand X4.here hx rfl (hb hby own_dB_63) rfl k) ?_
      refine X4.ldBf hx hZ e4 A_ra (((((x.toInt32) - (4 : Int32)) + (1 : Int32)) &&& (15 : Int32))).toInt.toNat (Int.toNat_of_nonneg (own_m15 _).1).symm (by have := own_m15 (((x.toInt32) - (4 : Int32)) + (1 : Int32)); omega) (hb hby own_dB_64) ?_
      show own_G p e below s _ _ _ T4 (mkF m 65 #[rv o, jv x, .second, jv (-1 : Int64), .second, iv (15 : Int32), iv ((x.toInt32) - (4 : Int32))] [(.int (f (((((x.toInt32) - (4 : Int32)) + (1 : Int32)) &&& (15 : Int32))).toInt.toNat)), (.int (((f ((((x.toInt32) - (4 : Int32)) &&& (15 : Int32))).toInt.toNat) &&& (255 : Int32)) <<< ((24 : Int32) &&& 31)))])
      refine own_gs 68 [(.int (255 : Int32)), (.int (f (((((x.toInt32) - (4 : Int32)) + (1 : Int32)) &&& (15 : Int32))).toInt.toNat)), (.int (((f ((((x.toInt32) - (4 : Int32)) &&& (15 : Int32))).toInt.toNat) &&& (255 : Int32)) <<< ((24 : Int32) &&& 31)))] (fun t' k => XS.sipush X4.here hx rfl (hb hby own_dB_65) k) ?_
      refine own_gs 69 [(.int ((f (((((x.toInt32) - (4 : Int32)) + (1 : Int32)) &&& (15 : Int32))).toInt.toNat) &&& (255 : Int32))), (.int (((f ((((x.toInt32) - (4 : Int32)) &&& (15 : Int32))).toInt.toNat) &&& (255 : Int32)) <<< ((24 : Int32) &&& 31)))] (fun t' k => XS.iand X4.here hx rfl (hb hby own_dB_68) rfl k) ?_
      refine own_gs 71 [(.int (16 : Int32)), (.int ((f (((((x.toInt32) - (4 : Int32)) + (1 : Int32)) &&& (15 : Int32))).toInt.toNat) &&& (255 : Int32))), (.int (((f ((((x.toInt32) - (4 : Int32)) &&& (15 : Int32))).toInt.toNat) &&& (255 : Int32)) <<< ((24 : Int32) &&& 31)))] (fun t' k => XS.bipush X4.here hx rfl (hb hby own_dB_69) k) ?_
      refine own_gs 72 [(.int (((f (((((x.toInt32) - (4 : Int32)) + (1 : Int32)) &&& (15 : Int32))).toInt.toNat) &&& (255 : Int32)) <<< ((16 : Int32) &&& 31))), (.int (((f ((((x.toInt32) - (4 : Int32)) &&& (15 : Int32))).toInt.toNat) &&& (255 : Int32)) <<< ((24 : Int32) &&& 31)))] (fun t' k => XS.ishl X4.here hx rfl (hb hby own_dB_71) rfl k) ?_
      refine own_gs 73 [(.int ((((f ((((x.toInt32) - (4 : Int32)) &&& (15 : Int32))).toInt.toNat) &&& (255 : Int32)) <<< ((24 : Int32) &&& 31)) ||| (((f (((((x.toInt32) - (4 : Int32)) + (1 : Int32)) &&& (15 : Int32))).toInt.toNat) &&& (255 : Int32)) <<< ((16 : Int32) &&& 31))))] (fun t' k => XS.ior X4.here hx rfl (hb hby own_dB_72) rfl k) ?_
      refine own_gs 74 [(.ref o), (.int ((((f ((((x.toInt32) - (4 : Int32)) &&& (15 : Int32))).toInt.toNat) &&& (255 : Int32)) <<< ((24 : Int32) &&& 31)) ||| (((f (((((x.toInt32) - (4 : Int32)) + (1 : Int32)) &&& (15 : Int32))).toInt.toNat) &&& (255 : Int32)) <<< ((16 : Int32) &&& 31))))] (fun t' k => XS.aloadN X4.here hx rfl (hb hby own_dB_73) rfl rfl  k) ?_
      refine X4.getF hx hZ hown (hw _ (List.mem_of_getElem? (i := 16) rfl)) e4 F_ring (hb hby own_dB_74) ?_
      intro T5 X5 e5
      refine own_gs 79 [(.int ((x.toInt32) - (4 : Int32))), (.ref ra), (.int ((((f ((((x.toInt32) - (4 : Int32)) &&& (15 : Int32))).toInt.toNat) &&& (255 : Int32)) <<< ((24 : Int32) &&& 31)) ||| (((f (((((x.toInt32) - (4 : Int32)) + (1 : Int32)) &&& (15 : Int32))).toInt.toNat) &&& (255 : Int32)) <<< ((16 : Int32) &&& 31))))] (fun t' k => XS.iload X5.here hx rfl (hb hby own_dB_77) rfl  k) ?_
      refine own_gs 80 [(.int (2 : Int32)), (.int ((x.toInt32) - (4 : Int32))), (.ref ra), (.int ((((f ((((x.toInt32) - (4 : Int32)) &&& (15 : Int32))).toInt.toNat) &&& (255 : Int32)) <<< ((24 : Int32) &&& 31)) ||| (((f (((((x.toInt32) - (4 : Int32)) + (1 : Int32)) &&& (15 : Int32))).toInt.toNat) &&& (255 : Int32)) <<< ((16 : Int32) &&& 31))))] (fun t' k => XS.iconst X5.here hx rfl (hb hby own_dB_79) k) ?_
      refine own_gs 81 [(.int (((x.toInt32) - (4 : Int32)) + (2 : Int32))), (.ref ra), (.int ((((f ((((x.toInt32) - (4 : Int32)) &&& (15 : Int32))).toInt.toNat) &&& (255 : Int32)) <<< ((24 : Int32) &&& 31)) ||| (((f (((((x.toInt32) - (4 : Int32)) + (1 : Int32)) &&& (15 : Int32))).toInt.toNat) &&& (255 : Int32)) <<< ((16 : Int32) &&& 31))))] (fun t' k => XS.iadd X5.here hx rfl (hb hby own_dB_80) rfl k) ?_
      refine own_gs 83 [(.int (15 : Int32)), (.int (((x.toInt32) - (4 : Int32)) + (2 : Int32))), (.ref ra), (.int ((((f ((((x.toInt32) - (4 : Int32)) &&& (15 : Int32))).toInt.toNat) &&& (255 : Int32)) <<< ((24 : Int32) &&& 31)) ||| (((f (((((x.toInt32) - (4 : Int32)) + (1 : Int32)) &&& (15 : Int32))).toInt.toNat) &&& (255 : Int32)) <<< ((16 : Int32) &&& 31))))] (fun t' k => XS.iload X5.here hx rfl (hb hby own_dB_81) rfl  k) ?_
      refine own_gs 84 [(.int ((((x.toInt32) - (4 : Int32)) + (2 : Int32)) &&& (15 : Int32))), (.ref ra), (.int ((((f ((((x.toInt32) - (4 : Int32)) &&& (15 : Int32))).toInt.toNat) &&& (255 : Int32)) <<< ((24 : Int32) &&& 31)) ||| (((f (((((x.toInt32) - (4 : Int32)) + (1 : Int32)) &&& (15 : Int32))).toInt.toNat) &&& (255 : Int32)) <<< ((16 : Int32) &&& 31))))] (fun t' k => XS.iand X5.here hx rfl (hb hby own_dB_83) rfl k) ?_
      refine X5.ldBf hx hZ e5 A_ra (((((x.toInt32) - (4 : Int32)) + (2 : Int32)) &&& (15 : Int32))).toInt.toNat (Int.toNat_of_nonneg (own_m15 _).1).symm (by have := own_m15 (((x.toInt32) - (4 : Int32)) + (2 : Int32)); omega) (hb hby own_dB_84) ?_
      show own_G p e below s _ _ _ T5 (mkF m 85 #[rv o, jv x, .second, jv (-1 : Int64), .second, iv (15 : Int32), iv ((x.toInt32) - (4 : Int32))] [(.int (f (((((x.toInt32) - (4 : Int32)) + (2 : Int32)) &&& (15 : Int32))).toInt.toNat)), (.int ((((f ((((x.toInt32) - (4 : Int32)) &&& (15 : Int32))).toInt.toNat) &&& (255 : Int32)) <<< ((24 : Int32) &&& 31)) ||| (((f (((((x.toInt32) - (4 : Int32)) + (1 : Int32)) &&& (15 : Int32))).toInt.toNat) &&& (255 : Int32)) <<< ((16 : Int32) &&& 31))))])
      refine own_gs 88 [(.int (255 : Int32)), (.int (f (((((x.toInt32) - (4 : Int32)) + (2 : Int32)) &&& (15 : Int32))).toInt.toNat)), (.int ((((f ((((x.toInt32) - (4 : Int32)) &&& (15 : Int32))).toInt.toNat) &&& (255 : Int32)) <<< ((24 : Int32) &&& 31)) ||| (((f (((((x.toInt32) - (4 : Int32)) + (1 : Int32)) &&& (15 : Int32))).toInt.toNat) &&& (255 : Int32)) <<< ((16 : Int32) &&& 31))))] (fun t' k => XS.sipush X5.here hx rfl (hb hby own_dB_85) k) ?_
      refine own_gs 89 [(.int ((f (((((x.toInt32) - (4 : Int32)) + (2 : Int32)) &&& (15 : Int32))).toInt.toNat) &&& (255 : Int32))), (.int ((((f ((((x.toInt32) - (4 : Int32)) &&& (15 : Int32))).toInt.toNat) &&& (255 : Int32)) <<< ((24 : Int32) &&& 31)) ||| (((f (((((x.toInt32) - (4 : Int32)) + (1 : Int32)) &&& (15 : Int32))).toInt.toNat) &&& (255 : Int32)) <<< ((16 : Int32) &&& 31))))] (fun t' k => XS.iand X5.here hx rfl (hb hby own_dB_88) rfl k) ?_
      refine own_gs 91 [(.int (8 : Int32)), (.int ((f (((((x.toInt32) - (4 : Int32)) + (2 : Int32)) &&& (15 : Int32))).toInt.toNat) &&& (255 : Int32))), (.int ((((f ((((x.toInt32) - (4 : Int32)) &&& (15 : Int32))).toInt.toNat) &&& (255 : Int32)) <<< ((24 : Int32) &&& 31)) ||| (((f (((((x.toInt32) - (4 : Int32)) + (1 : Int32)) &&& (15 : Int32))).toInt.toNat) &&& (255 : Int32)) <<< ((16 : Int32) &&& 31))))] (fun t' k => XS.bipush X5.here hx rfl (hb hby own_dB_89) k) ?_
      refine own_gs 92 [(.int (((f (((((x.toInt32) - (4 : Int32)) + (2 : Int32)) &&& (15 : Int32))).toInt.toNat) &&& (255 : Int32)) <<< ((8 : Int32) &&& 31))), (.int ((((f ((((x.toInt32) - (4 : Int32)) &&& (15 : Int32))).toInt.toNat) &&& (255 : Int32)) <<< ((24 : Int32) &&& 31)) ||| (((f (((((x.toInt32) - (4 : Int32)) + (1 : Int32)) &&& (15 : Int32))).toInt.toNat) &&& (255 : Int32)) <<< ((16 : Int32) &&& 31))))] (fun t' k => XS.ishl X5.here hx rfl (hb hby own_dB_91) rfl k) ?_
      refine own_gs 93 [(.int (((((f ((((x.toInt32) - (4 : Int32)) &&& (15 : Int32))).toInt.toNat) &&& (255 : Int32)) <<< ((24 : Int32) &&& 31)) ||| (((f (((((x.toInt32) - (4 : Int32)) + (1 : Int32)) &&& (15 : Int32))).toInt.toNat) &&& (255 : Int32)) <<< ((16 : Int32) &&& 31))) ||| (((f (((((x.toInt32) - (4 : Int32)) + (2 : Int32)) &&& (15 : Int32))).toInt.toNat) &&& (255 : Int32)) <<< ((8 : Int32) &&& 31))))] (fun t' k => XS.ior X5.here hx rfl (hb hby own_dB_92) rfl k) ?_
      refine own_gs 94 [(.ref o), (.int (((((f ((((x.toInt32) - (4 : Int32)) &&& (15 : Int32))).toInt.toNat) &&& (255 : Int32)) <<< ((24 : Int32) &&& 31)) ||| (((f (((((x.toInt32) - (4 : Int32)) + (1 : Int32)) &&& (15 : Int32))).toInt.toNat) &&& (255 : Int32)) <<< ((16 : Int32) &&& 31))) ||| (((f (((((x.toInt32) - (4 : Int32)) + (2 : Int32)) &&& (15 : Int32))).toInt.toNat) &&& (255 : Int32)) <<< ((8 : Int32) &&& 31))))] (fun t' k => XS.aloadN X5.here hx rfl (hb hby own_dB_93) rfl rfl  k) ?_
      refine X5.getF hx hZ hown (hw _ (List.mem_of_getElem? (i := 16) rfl)) e5 F_ring (hb hby own_dB_94) ?_
      intro T6 X6 e6
      refine own_gs 99 [(.int ((x.toInt32) - (4 : Int32))), (.ref ra), (.int (((((f ((((x.toInt32) - (4 : Int32)) &&& (15 : Int32))).toInt.toNat) &&& (255 : Int32)) <<< ((24 : Int32) &&& 31)) ||| (((f (((((x.toInt32) - (4 : Int32)) + (1 : Int32)) &&& (15 : Int32))).toInt.toNat) &&& (255 : Int32)) <<< ((16 : Int32) &&& 31))) ||| (((f (((((x.toInt32) - (4 : Int32)) + (2 : Int32)) &&& (15 : Int32))).toInt.toNat) &&& (255 : Int32)) <<< ((8 : Int32) &&& 31))))] (fun t' k => XS.iload X6.here hx rfl (hb hby own_dB_97) rfl  k) ?_
      refine own_gs 100 [(.int (3 : Int32)), (.int ((x.toInt32) - (4 : Int32))), (.ref ra), (.int (((((f ((((x.toInt32) - (4 : Int32)) &&& (15 : Int32))).toInt.toNat) &&& (255 : Int32)) <<< ((24 : Int32) &&& 31)) ||| (((f (((((x.toInt32) - (4 : Int32)) + (1 : Int32)) &&& (15 : Int32))).toInt.toNat) &&& (255 : Int32)) <<< ((16 : Int32) &&& 31))) ||| (((f (((((x.toInt32) - (4 : Int32)) + (2 : Int32)) &&& (15 : Int32))).toInt.toNat) &&& (255 : Int32)) <<< ((8 : Int32) &&& 31))))] (fun t' k => XS.iconst X6.here hx rfl (hb hby own_dB_99) k) ?_
      refine own_gs 101 [(.int (((x.toInt32) - (4 : Int32)) + (3 : Int32))), (.ref ra), (.int (((((f ((((x.toInt32) - (4 : Int32)) &&& (15 : Int32))).toInt.toNat) &&& (255 : Int32)) <<< ((24 : Int32) &&& 31)) ||| (((f (((((x.toInt32) - (4 : Int32)) + (1 : Int32)) &&& (15 : Int32))).toInt.toNat) &&& (255 : Int32)) <<< ((16 : Int32) &&& 31))) ||| (((f (((((x.toInt32) - (4 : Int32)) + (2 : Int32)) &&& (15 : Int32))).toInt.toNat) &&& (255 : Int32)) <<< ((8 : Int32) &&& 31))))] (fun t' k => XS.iadd X6.here hx rfl (hb hby own_dB_100) rfl k) ?_
      refine own_gs 103 [(.int (15 : Int32)), (.int (((x.toInt32) - (4 : Int32)) + (3 : Int32))), (.ref ra), (.int (((((f ((((x.toInt32) - (4 : Int32)) &&& (15 : Int32))).toInt.toNat) &&& (255 : Int32)) <<< ((24 : Int32) &&& 31)) ||| (((f (((((x.toInt32) - (4 : Int32)) + (1 : Int32)) &&& (15 : Int32))).toInt.toNat) &&& (255 : Int32)) <<< ((16 : Int32) &&& 31))) ||| (((f (((((x.toInt32) - (4 : Int32)) + (2 : Int32)) &&& (15 : Int32))).toInt.toNat) &&& (255 : Int32)) <<< ((8 : Int32) &&& 31))))] (fun t' k => XS.iload X6.here hx rfl (hb hby own_dB_101) rfl  k) ?_
      refine own_gs 104 [(.int ((((x.toInt32) - (4 : Int32)) + (3 : Int32)) &&& (15 : Int32))), (.ref ra), (.int (((((f ((((x.toInt32) - (4 : Int32)) &&& (15 : Int32))).toInt.toNat) &&& (255 : Int32)) <<< ((24 : Int32) &&& 31)) ||| (((f (((((x.toInt32) - (4 : Int32)) + (1 : Int32)) &&& (15 : Int32))).toInt.toNat) &&& (255 : Int32)) <<< ((16 : Int32) &&& 31))) ||| (((f (((((x.toInt32) - (4 : Int32)) + (2 : Int32)) &&& (15 : Int32))).toInt.toNat) &&& (255 : Int32)) <<< ((8 : Int32) &&& 31))))] (fun t' k => XS.iand X6.here hx rfl (hb hby own_dB_103) rfl k) ?_
      refine X6.ldBf hx hZ e6 A_ra (((((x.toInt32) - (4 : Int32)) + (3 : Int32)) &&& (15 : Int32))).toInt.toNat (Int.toNat_of_nonneg (own_m15 _).1).symm (by have := own_m15 (((x.toInt32) - (4 : Int32)) + (3 : Int32)); omega) (hb hby own_dB_104) ?_
      show own_G p e below s _ _ _ T6 (mkF m 105 #[rv o, jv x, .second, jv (-1 : Int64), .second, iv (15 : Int32), iv ((x.toInt32) - (4 : Int32))] [(.int (f (((((x.toInt32) - (4 : Int32)) + (3 : Int32)) &&& (15 : Int32))).toInt.toNat)), (.int (((((f ((((x.toInt32) - (4 : Int32)) &&& (15 : Int32))).toInt.toNat) &&& (255 : Int32)) <<< ((24 : Int32) &&& 31)) ||| (((f (((((x.toInt32) - (4 : Int32)) + (1 : Int32)) &&& (15 : Int32))).toInt.toNat) &&& (255 : Int32)) <<< ((16 : Int32) &&& 31))) ||| (((f (((((x.toInt32) - (4 : Int32)) + (2 : Int32)) &&& (15 : Int32))).toInt.toNat) &&& (255 : Int32)) <<< ((8 : Int32) &&& 31))))])
      refine own_gs 108 [(.int (255 : Int32)), (.int (f (((((x.toInt32) - (4 : Int32)) + (3 : Int32)) &&& (15 : Int32))).toInt.toNat)), (.int (((((f ((((x.toInt32) - (4 : Int32)) &&& (15 : Int32))).toInt.toNat) &&& (255 : Int32)) <<< ((24 : Int32) &&& 31)) ||| (((f (((((x.toInt32) - (4 : Int32)) + (1 : Int32)) &&& (15 : Int32))).toInt.toNat) &&& (255 : Int32)) <<< ((16 : Int32) &&& 31))) ||| (((f (((((x.toInt32) - (4 : Int32)) + (2 : Int32)) &&& (15 : Int32))).toInt.toNat) &&& (255 : Int32)) <<< ((8 : Int32) &&& 31))))] (fun t' k => XS.sipush X6.here hx rfl (hb hby own_dB_105) k) ?_
      refine own_gs 109 [(.int ((f (((((x.toInt32) - (4 : Int32)) + (3 : Int32)) &&& (15 : Int32))).toInt.toNat) &&& (255 : Int32))), (.int (((((f ((((x.toInt32) - (4 : Int32)) &&& (15 : Int32))).toInt.toNat) &&& (255 : Int32)) <<< ((24 : Int32) &&& 31)) ||| (((f (((((x.toInt32) - (4 : Int32)) + (1 : Int32)) &&& (15 : Int32))).toInt.toNat) &&& (255 : Int32)) <<< ((16 : Int32) &&& 31))) ||| (((f (((((x.toInt32) - (4 : Int32)) + (2 : Int32)) &&& (15 : Int32))).toInt.toNat) &&& (255 : Int32)) <<< ((8 : Int32) &&& 31))))] (fun t' k => XS.iand X6.here hx rfl (hb hby own_dB_108) rfl k) ?_
      refine own_gs 110 [(.int ((((((f ((((x.toInt32) - (4 : Int32)) &&& (15 : Int32))).toInt.toNat) &&& (255 : Int32)) <<< ((24 : Int32) &&& 31)) ||| (((f (((((x.toInt32) - (4 : Int32)) + (1 : Int32)) &&& (15 : Int32))).toInt.toNat) &&& (255 : Int32)) <<< ((16 : Int32) &&& 31))) ||| (((f (((((x.toInt32) - (4 : Int32)) + (2 : Int32)) &&& (15 : Int32))).toInt.toNat) &&& (255 : Int32)) <<< ((8 : Int32) &&& 31))) ||| ((f (((((x.toInt32) - (4 : Int32)) + (3 : Int32)) &&& (15 : Int32))).toInt.toNat) &&& (255 : Int32))))] (fun t' k => XS.ior X6.here hx rfl (hb hby own_dB_109) rfl k) ?_
      refine own_gs 111 [(.long (((((((f ((((x.toInt32) - (4 : Int32)) &&& (15 : Int32))).toInt.toNat) &&& (255 : Int32)) <<< ((24 : Int32) &&& 31)) ||| (((f (((((x.toInt32) - (4 : Int32)) + (1 : Int32)) &&& (15 : Int32))).toInt.toNat) &&& (255 : Int32)) <<< ((16 : Int32) &&& 31))) ||| (((f (((((x.toInt32) - (4 : Int32)) + (2 : Int32)) &&& (15 : Int32))).toInt.toNat) &&& (255 : Int32)) <<< ((8 : Int32) &&& 31))) ||| ((f (((((x.toInt32) - (4 : Int32)) + (3 : Int32)) &&& (15 : Int32))).toInt.toNat) &&& (255 : Int32))).toInt64))] (fun t' k => XS.i2l X6.here hx rfl (hb hby own_dB_110) rfl k) ?_
      refine own_go (mkF m 112 #[rv o, jv x, .second, jv (((((((f ((((x.toInt32) - (4 : Int32)) &&& (15 : Int32))).toInt.toNat) &&& (255 : Int32)) <<< ((24 : Int32) &&& 31)) ||| (((f (((((x.toInt32) - (4 : Int32)) + (1 : Int32)) &&& (15 : Int32))).toInt.toNat) &&& (255 : Int32)) <<< ((16 : Int32) &&& 31))) ||| (((f (((((x.toInt32) - (4 : Int32)) + (2 : Int32)) &&& (15 : Int32))).toInt.toNat) &&& (255 : Int32)) <<< ((8 : Int32) &&& 31))) ||| ((f (((((x.toInt32) - (4 : Int32)) + (3 : Int32)) &&& (15 : Int32))).toInt.toNat) &&& (255 : Int32))).toInt64), .second, iv (15 : Int32), iv ((x.toInt32) - (4 : Int32))] []) (fun t' k => XS.lstoreN X6.here hx rfl (hb hby own_dB_111) rfl rfl k) ?_
      refine own_gs 113 [(.long (((((((f ((((x.toInt32) - (4 : Int32)) &&& (15 : Int32))).toInt.toNat) &&& (255 : Int32)) <<< ((24 : Int32) &&& 31)) ||| (((f (((((x.toInt32) - (4 : Int32)) + (1 : Int32)) &&& (15 : Int32))).toInt.toNat) &&& (255 : Int32)) <<< ((16 : Int32) &&& 31))) ||| (((f (((((x.toInt32) - (4 : Int32)) + (2 : Int32)) &&& (15 : Int32))).toInt.toNat) &&& (255 : Int32)) <<< ((8 : Int32) &&& 31))) ||| ((f (((((x.toInt32) - (4 : Int32)) + (3 : Int32)) &&& (15 : Int32))).toInt.toNat) &&& (255 : Int32))).toInt64))] (fun t' k => XS.lloadN X6.here hx rfl (hb hby own_dB_112) rfl  k) ?_
      refine own_gs 116 [(.long (4294967295 : Int64)), (.long (((((((f ((((x.toInt32) - (4 : Int32)) &&& (15 : Int32))).toInt.toNat) &&& (255 : Int32)) <<< ((24 : Int32) &&& 31)) ||| (((f (((((x.toInt32) - (4 : Int32)) + (1 : Int32)) &&& (15 : Int32))).toInt.toNat) &&& (255 : Int32)) <<< ((16 : Int32) &&& 31))) ||| (((f (((((x.toInt32) - (4 : Int32)) + (2 : Int32)) &&& (15 : Int32))).toInt.toNat) &&& (255 : Int32)) <<< ((8 : Int32) &&& 31))) ||| ((f (((((x.toInt32) - (4 : Int32)) + (3 : Int32)) &&& (15 : Int32))).toInt.toNat) &&& (255 : Int32))).toInt64))] (fun t' k => X6.ldc2Long hx hown (mvT hZ (hw _ (List.mem_of_getElem? (i := 81) rfl))) (g := (mkF m 113 #[rv o, jv x, .second, jv (((((((f ((((x.toInt32) - (4 : Int32)) &&& (15 : Int32))).toInt.toNat) &&& (255 : Int32)) <<< ((24 : Int32) &&& 31)) ||| (((f (((((x.toInt32) - (4 : Int32)) + (1 : Int32)) &&& (15 : Int32))).toInt.toNat) &&& (255 : Int32)) <<< ((16 : Int32) &&& 31))) ||| (((f (((((x.toInt32) - (4 : Int32)) + (2 : Int32)) &&& (15 : Int32))).toInt.toNat) &&& (255 : Int32)) <<< ((8 : Int32) &&& 31))) ||| ((f (((((x.toInt32) - (4 : Int32)) + (3 : Int32)) &&& (15 : Int32))).toInt.toNat) &&& (255 : Int32))).toInt64), .second, iv (15 : Int32), iv ((x.toInt32) - (4 : Int32))] [(.long (((((((f ((((x.toInt32) - (4 : Int32)) &&& (15 : Int32))).toInt.toNat) &&& (255 : Int32)) <<< ((24 : Int32) &&& 31)) ||| (((f (((((x.toInt32) - (4 : Int32)) + (1 : Int32)) &&& (15 : Int32))).toInt.toNat) &&& (255 : Int32)) <<< ((16 : Int32) &&& 31))) ||| (((f (((((x.toInt32) - (4 : Int32)) + (2 : Int32)) &&& (15 : Int32))).toInt.toNat) &&& (255 : Int32)) <<< ((8 : Int32) &&& 31))) ||| ((f (((((x.toInt32) - (4 : Int32)) + (3 : Int32)) &&& (15 : Int32))).toInt.toNat) &&& (255 : Int32))).toInt64))])) rfl (hb hby own_dB_113) _ k) ?_
      refine own_gs 117 [(.long ((((((((f ((((x.toInt32) - (4 : Int32)) &&& (15 : Int32))).toInt.toNat) &&& (255 : Int32)) <<< ((24 : Int32) &&& 31)) ||| (((f (((((x.toInt32) - (4 : Int32)) + (1 : Int32)) &&& (15 : Int32))).toInt.toNat) &&& (255 : Int32)) <<< ((16 : Int32) &&& 31))) ||| (((f (((((x.toInt32) - (4 : Int32)) + (2 : Int32)) &&& (15 : Int32))).toInt.toNat) &&& (255 : Int32)) <<< ((8 : Int32) &&& 31))) ||| ((f (((((x.toInt32) - (4 : Int32)) + (3 : Int32)) &&& (15 : Int32))).toInt.toNat) &&& (255 : Int32))).toInt64) &&& (4294967295 : Int64)))] (fun t' k => XS.land X6.here hx rfl (hb hby own_dB_116) rfl k) ?_
      refine own_go (mkF m 118 #[rv o, jv x, .second, jv ((((((((f ((((x.toInt32) - (4 : Int32)) &&& (15 : Int32))).toInt.toNat) &&& (255 : Int32)) <<< ((24 : Int32) &&& 31)) ||| (((f (((((x.toInt32) - (4 : Int32)) + (1 : Int32)) &&& (15 : Int32))).toInt.toNat) &&& (255 : Int32)) <<< ((16 : Int32) &&& 31))) ||| (((f (((((x.toInt32) - (4 : Int32)) + (2 : Int32)) &&& (15 : Int32))).toInt.toNat) &&& (255 : Int32)) <<< ((8 : Int32) &&& 31))) ||| ((f (((((x.toInt32) - (4 : Int32)) + (3 : Int32)) &&& (15 : Int32))).toInt.toNat) &&& (255 : Int32))).toInt64) &&& (4294967295 : Int64)), .second, iv (15 : Int32), iv ((x.toInt32) - (4 : Int32))] []) (fun t' k => XS.lstoreN X6.here hx rfl (hb hby own_dB_117) rfl rfl k) ?_
      refine own_gs 119 [(.long ((((((((f ((((x.toInt32) - (4 : Int32)) &&& (15 : Int32))).toInt.toNat) &&& (255 : Int32)) <<< ((24 : Int32) &&& 31)) ||| (((f (((((x.toInt32) - (4 : Int32)) + (1 : Int32)) &&& (15 : Int32))).toInt.toNat) &&& (255 : Int32)) <<< ((16 : Int32) &&& 31))) ||| (((f (((((x.toInt32) - (4 : Int32)) + (2 : Int32)) &&& (15 : Int32))).toInt.toNat) &&& (255 : Int32)) <<< ((8 : Int32) &&& 31))) ||| ((f (((((x.toInt32) - (4 : Int32)) + (3 : Int32)) &&& (15 : Int32))).toInt.toNat) &&& (255 : Int32))).toInt64) &&& (4294967295 : Int64)))] (fun t' k => XS.lloadN X6.here hx rfl (hb hby own_dB_118) rfl  k) ?_
      refine X6.retJ hx hlk hret (hb hby own_dB_119) ?_ (by decide) (by decide)
      exact ⟨congrArg (fun z => some (Value.long z)) ((show (own_bb x rcv f) = ((((((((f ((((x.toInt32) - (4 : Int32)) &&& (15 : Int32))).toInt.toNat) &&& (255 : Int32)) <<< ((24 : Int32) &&& 31)) ||| (((f (((((x.toInt32) - (4 : Int32)) + (1 : Int32)) &&& (15 : Int32))).toInt.toNat) &&& (255 : Int32)) <<< ((16 : Int32) &&& 31))) ||| (((f (((((x.toInt32) - (4 : Int32)) + (2 : Int32)) &&& (15 : Int32))).toInt.toNat) &&& (255 : Int32)) <<< ((8 : Int32) &&& 31))) ||| ((f (((((x.toInt32) - (4 : Int32)) + (3 : Int32)) &&& (15 : Int32))).toInt.toNat) &&& (255 : Int32))).toInt64) &&& (4294967295 : Int64)) from ((if_neg hc9).trans ((if_neg hc18).trans rfl))).trans (by rfl : ((((((((f ((((x.toInt32) - (4 : Int32)) &&& (15 : Int32))).toInt.toNat) &&& (255 : Int32)) <<< ((24 : Int32) &&& 31)) ||| (((f (((((x.toInt32) - (4 : Int32)) + (1 : Int32)) &&& (15 : Int32))).toInt.toNat) &&& (255 : Int32)) <<< ((16 : Int32) &&& 31))) ||| (((f (((((x.toInt32) - (4 : Int32)) + (2 : Int32)) &&& (15 : Int32))).toInt.toNat) &&& (255 : Int32)) <<< ((8 : Int32) &&& 31))) ||| ((f (((((x.toInt32) - (4 : Int32)) + (3 : Int32)) &&& (15 : Int32))).toInt.toNat) &&& (255 : Int32))).toInt64) &&& (4294967295 : Int64)) = ((((((((f ((((x.toInt32) - (4 : Int32)) &&& (15 : Int32))).toInt.toNat) &&& (255 : Int32)) <<< ((24 : Int32) &&& 31)) ||| (((f (((((x.toInt32) - (4 : Int32)) + (1 : Int32)) &&& (15 : Int32))).toInt.toNat) &&& (255 : Int32)) <<< ((16 : Int32) &&& 31))) ||| (((f (((((x.toInt32) - (4 : Int32)) + (2 : Int32)) &&& (15 : Int32))).toInt.toNat) &&& (255 : Int32)) <<< ((8 : Int32) &&& 31))) ||| ((f (((((x.toInt32) - (4 : Int32)) + (3 : Int32)) &&& (15 : Int32))).toInt.toNat) &&& (255 : Int32))).toInt64) &&& (4294967295 : Int64)))).symm, e6⟩


def own_bt (d : Int64) (k : Nat) : Int32 := ((((own_by d (Int32.ofNat k)).toInt32).toInt8.toInt32).toInt8.toInt32)
def own_b4 (B : Int64) : Int32 := (((B.toInt32).toInt8.toInt32).toInt8.toInt32)
theorem own_byb (d : Int64) (i : Int32) : (own_by d i).toBitVec.toNat < 256 := by
  unfold own_by
  have e : (255 : Int64).toBitVec.toNat = 255 := rfl
  rw [Int64.toBitVec_and, BitVec.toNat_and, e]
  exact Nat.lt_of_le_of_lt Nat.and_le_right (by decide)
theorem own_b4n {B : Int64} (h : B.toBitVec.toNat < 256) : (own_b4 B &&& 255).toBitVec.toNat = B.toBitVec.toNat := by
  have q : ∀ i : Fin 256, (own_b4 (Int64.ofNat i.val) &&& 255).toBitVec.toNat = i.val := by decide +kernel
  have e : B = Int64.ofNat B.toBitVec.toNat := by
    apply Int64.toBitVec_inj.mp
    show B.toBitVec = BitVec.ofNat 64 B.toBitVec.toNat
    simp
  have r := q ⟨B.toBitVec.toNat, h⟩
  rw [show ((⟨B.toBitVec.toNat, h⟩ : Fin 256).val) = B.toBitVec.toNat from rfl, ← e] at r
  exact r
theorem own_zx (x : Int32) : (x.toInt64 &&& (4294967295 : Int64)).toBitVec.toNat = x.toBitVec.toNat := by
  have e : (4294967295 : Int64).toBitVec.toNat = 2 ^ 32 - 1 := rfl
  have e2 : x.toInt64.toBitVec = x.toBitVec.signExtend 64 := rfl
  have hb := x.toBitVec.isLt
  rw [Int64.toBitVec_and, BitVec.toNat_and, e, Nat.and_two_pow_sub_one_eq_mod, e2, BitVec.toNat_signExtend, BitVec.toNat_setWidth]
  split <;> omega
theorem own_s32 (x : Int32) (i k : Nat) (n : Int32) (hx : x.toBitVec.toNat = i) (hi : i < 256) (hk : (x <<< n).toBitVec = x.toBitVec <<< k) (hk2 : k ≤ 24) : (x <<< n).toBitVec.toNat = i <<< k := by
  rw [hk, BitVec.toNat_shiftLeft, hx, Nat.shiftLeft_eq]
  have : 2 ^ k ≤ 2 ^ 24 := Nat.pow_le_pow_right (by decide) hk2
  have h3 : i * 2 ^ k ≤ 255 * 2 ^ 24 := Nat.mul_le_mul (by omega) this
  exact Nat.mod_eq_of_lt (by omega)
theorem own_s64 (x : Int64) (i k : Nat) (n : Int64) (hx : x.toBitVec.toNat = i) (hi : i < 256) (hk : (x <<< n).toBitVec = x.toBitVec <<< k) (hk2 : k ≤ 24) : (x <<< n).toBitVec.toNat = i <<< k := by
  rw [hk, BitVec.toNat_shiftLeft, hx, Nat.shiftLeft_eq]
  have : 2 ^ k ≤ 2 ^ 24 := Nat.pow_le_pow_right (by decide) hk2
  have h3 : i * 2 ^ k ≤ 255 * 2 ^ 24 := Nat.mul_le_mul (by omega) this
  exact Nat.mod_eq_of_lt (by omega)
theorem own_h32_24 (x : Int32) : (x <<< ((24 : Int32) &&& 31)).toBitVec = x.toBitVec <<< 24 := rfl
theorem own_h64_24 (x : Int64) : (x <<< ((24 : Int32) &&& 0x3f).toInt64).toBitVec = x.toBitVec <<< 24 := rfl
theorem own_h32_16 (x : Int32) : (x <<< ((16 : Int32) &&& 31)).toBitVec = x.toBitVec <<< 16 := rfl
theorem own_h64_16 (x : Int64) : (x <<< ((16 : Int32) &&& 0x3f).toInt64).toBitVec = x.toBitVec <<< 16 := rfl
theorem own_h32_8 (x : Int32) : (x <<< ((8 : Int32) &&& 31)).toBitVec = x.toBitVec <<< 8 := rfl
theorem own_h64_8 (x : Int64) : (x <<< ((8 : Int32) &&& 0x3f).toInt64).toBitVec = x.toBitVec <<< 8 := rfl
theorem own_cmb {B0 B1 B2 B3 : Int64} (h0 : B0.toBitVec.toNat < 256) (h1 : B1.toBitVec.toNat < 256) (h2 : B2.toBitVec.toNat < 256) (h3 : B3.toBitVec.toNat < 256) :
    (((((((own_b4 B0 &&& (255 : Int32)) <<< ((24 : Int32) &&& 31)) ||| ((own_b4 B1 &&& (255 : Int32)) <<< ((16 : Int32) &&& 31))) ||| ((own_b4 B2 &&& (255 : Int32)) <<< ((8 : Int32) &&& 31))) ||| (own_b4 B3 &&& (255 : Int32)))).toInt64) &&& (4294967295 : Int64) =
    (((B0 <<< ((24 : Int32) &&& 0x3f).toInt64) ||| (B1 <<< ((16 : Int32) &&& 0x3f).toInt64)) ||| (B2 <<< ((8 : Int32) &&& 0x3f).toInt64)) ||| B3 := by
  apply Int64.toBitVec_inj.mp; apply BitVec.eq_of_toNat_eq
  rw [own_zx]
  simp only [Int32.toBitVec_or, BitVec.toNat_or, Int64.toBitVec_or]
  rw [own_s32 (own_b4 B0 &&& (255 : Int32)) _ 24 ((24 : Int32) &&& 31) (own_b4n h0) h0 (own_h32_24 _) (by decide), own_s32 (own_b4 B1 &&& (255 : Int32)) _ 16 ((16 : Int32) &&& 31) (own_b4n h1) h1 (own_h32_16 _) (by decide), own_s32 (own_b4 B2 &&& (255 : Int32)) _ 8 ((8 : Int32) &&& 31) (own_b4n h2) h2 (own_h32_8 _) (by decide), own_b4n h3,
    own_s64 B0 _ 24 ((24 : Int32) &&& 0x3f).toInt64 rfl h0 (own_h64_24 _) (by decide), own_s64 B1 _ 16 ((16 : Int32) &&& 0x3f).toInt64 rfl h1 (own_h64_16 _) (by decide), own_s64 B2 _ 8 ((8 : Int32) &&& 0x3f).toInt64 rfl h2 (own_h64_8 _) (by decide)]
theorem own_nadd {x : Int32} {n : Nat} (j : Nat) (h : x.toInt = n) (hn : n ≤ 4) (hj : j ≤ 3) : x + Int32.ofNat j = Int32.ofNat (n + j) := by
  have e : (Int32.ofNat j).toInt = j := Int32.toInt_ofNat_of_lt (by omega)
  rw [← Int32.toInt_inj, Jvm.Kit.i32_add (by omega) (by omega), e, h, Int32.toInt_ofNat_of_lt (by omega)]; omega
theorem own_n0 {x : Int32} {n : Nat} (h : x.toInt = n) (hn : n ≤ 4) : x = Int32.ofNat n := by
  rw [← Int32.toInt_inj, h, Int32.toInt_ofNat_of_lt (by omega)]
def own_want (d x : Int64) : Int64 := ((((own_by d (x.toInt32 - (4 : Int32))) <<< ((24 : Int32) &&& 0x3f).toInt64) ||| ((own_by d (x.toInt32 - (3 : Int32))) <<< ((16 : Int32) &&& 0x3f).toInt64)) ||| ((own_by d (x.toInt32 - (2 : Int32))) <<< ((8 : Int32) &&& 0x3f).toInt64)) ||| (own_by d (x.toInt32 - (1 : Int32)))
theorem own_fin {d x rcv : Int64} {f : Nat → Int32} {tot : Nat} (ht : tot ≤ 8) (hr : rcv.toInt = tot) (hf : ∀ k, k < tot → f k = own_bt d k) (h4 : ¬ x < 4) (hx : ¬ rcv < x) : own_bb x rcv f = own_want d x := by
  have e4 : (4 : Int64).toInt = 4 := rfl
  have a1 := h4; have a2 := hx
  rw [Int64.lt_iff_toInt_lt] at a1 a2
  obtain ⟨o, ho, ho1, ho2⟩ : ∃ o : Nat, x = Int64.ofNat o ∧ 4 ≤ o ∧ o ≤ tot := by
    refine ⟨x.toInt.toNat, ?_, by omega, by omega⟩
    rw [← Int64.toInt_inj, Int64.toInt_ofNat_of_lt (by omega)]; omega
  unfold own_bb
  rw [if_neg h4, if_neg hx]
  subst ho
  rcases (by omega : o = 4 ∨ o = 5 ∨ o = 6 ∨ o = 7 ∨ o = 8) with rfl | rfl | rfl | rfl | rfl
  · have q0 := hf 0 (by omega); have q1 := hf 1 (by omega); have q2 := hf 2 (by omega); have q3 := hf 3 (by omega)
    rw [show (((Int64.ofNat 4).toInt32 - (4 : Int32)) &&& (15 : Int32)).toInt.toNat = 0 from by decide, show ((((Int64.ofNat 4).toInt32 - (4 : Int32)) + (1 : Int32)) &&& (15 : Int32)).toInt.toNat = 1 from by decide, show ((((Int64.ofNat 4).toInt32 - (4 : Int32)) + (2 : Int32)) &&& (15 : Int32)).toInt.toNat = 2 from by decide, show ((((Int64.ofNat 4).toInt32 - (4 : Int32)) + (3 : Int32)) &&& (15 : Int32)).toInt.toNat = 3 from by decide, q0, q1, q2, q3]
    exact own_cmb (own_byb d _) (own_byb d _) (own_byb d _) (own_byb d _)
  · have q0 := hf 1 (by omega); have q1 := hf 2 (by omega); have q2 := hf 3 (by omega); have q3 := hf 4 (by omega)
    rw [show (((Int64.ofNat 5).toInt32 - (4 : Int32)) &&& (15 : Int32)).toInt.toNat = 1 from by decide, show ((((Int64.ofNat 5).toInt32 - (4 : Int32)) + (1 : Int32)) &&& (15 : Int32)).toInt.toNat = 2 from by decide, show ((((Int64.ofNat 5).toInt32 - (4 : Int32)) + (2 : Int32)) &&& (15 : Int32)).toInt.toNat = 3 from by decide, show ((((Int64.ofNat 5).toInt32 - (4 : Int32)) + (3 : Int32)) &&& (15 : Int32)).toInt.toNat = 4 from by decide, q0, q1, q2, q3]
    exact own_cmb (own_byb d _) (own_byb d _) (own_byb d _) (own_byb d _)
  · have q0 := hf 2 (by omega); have q1 := hf 3 (by omega); have q2 := hf 4 (by omega); have q3 := hf 5 (by omega)
    rw [show (((Int64.ofNat 6).toInt32 - (4 : Int32)) &&& (15 : Int32)).toInt.toNat = 2 from by decide, show ((((Int64.ofNat 6).toInt32 - (4 : Int32)) + (1 : Int32)) &&& (15 : Int32)).toInt.toNat = 3 from by decide, show ((((Int64.ofNat 6).toInt32 - (4 : Int32)) + (2 : Int32)) &&& (15 : Int32)).toInt.toNat = 4 from by decide, show ((((Int64.ofNat 6).toInt32 - (4 : Int32)) + (3 : Int32)) &&& (15 : Int32)).toInt.toNat = 5 from by decide, q0, q1, q2, q3]
    exact own_cmb (own_byb d _) (own_byb d _) (own_byb d _) (own_byb d _)
  · have q0 := hf 3 (by omega); have q1 := hf 4 (by omega); have q2 := hf 5 (by omega); have q3 := hf 6 (by omega)
    rw [show (((Int64.ofNat 7).toInt32 - (4 : Int32)) &&& (15 : Int32)).toInt.toNat = 3 from by decide, show ((((Int64.ofNat 7).toInt32 - (4 : Int32)) + (1 : Int32)) &&& (15 : Int32)).toInt.toNat = 4 from by decide, show ((((Int64.ofNat 7).toInt32 - (4 : Int32)) + (2 : Int32)) &&& (15 : Int32)).toInt.toNat = 5 from by decide, show ((((Int64.ofNat 7).toInt32 - (4 : Int32)) + (3 : Int32)) &&& (15 : Int32)).toInt.toNat = 6 from by decide, q0, q1, q2, q3]
    exact own_cmb (own_byb d _) (own_byb d _) (own_byb d _) (own_byb d _)
  · have q0 := hf 4 (by omega); have q1 := hf 5 (by omega); have q2 := hf 6 (by omega); have q3 := hf 7 (by omega)
    rw [show (((Int64.ofNat 8).toInt32 - (4 : Int32)) &&& (15 : Int32)).toInt.toNat = 4 from by decide, show ((((Int64.ofNat 8).toInt32 - (4 : Int32)) + (1 : Int32)) &&& (15 : Int32)).toInt.toNat = 5 from by decide, show ((((Int64.ofNat 8).toInt32 - (4 : Int32)) + (2 : Int32)) &&& (15 : Int32)).toInt.toNat = 6 from by decide, show ((((Int64.ofNat 8).toInt32 - (4 : Int32)) + (3 : Int32)) &&& (15 : Int32)).toInt.toNat = 7 from by decide, q0, q1, q2, q3]
    exact own_cmb (own_byb d _) (own_byb d _) (own_byb d _) (own_byb d _)

theorem own_pn_own_rm0 : plainFor x = true := plainFor_of_name (show plainName "com/example/vocab_scan/vocabscan/WordEdgesBytesBeforePinLaw" = true by first | (simp [plainName, overriddenIn]; done) | decide +kernel)
set_option maxRecDepth 65536 in
set_option maxHeartbeats 40000000 in
theorem own_rm0 (l : Launch) (Z : State) (a0 : Array Value) (hw : ∀ d ∈ tables_1, d.before a0 Z = true) (ws : List Jvm.Cond) (h0 : Heap) (d : Int64) (sz : Int32) (ov : Int64) (sel : Int32)  :
    own_C l Z x code maxLocals ret ws room_1 #[(.long d), (.int sz), (.long ov), (.int sel)] h0 (own_Q h0.size (fun v h => v = some (.int 1))) := by
  refine own_met own_pn_own_rm0 #[jv d, .second, iv sz, jv ov, .second, iv sel, .unset, .unset, .unset, .unset, .unset, .unset, .unset, .unset, .unset, .unset, .unset, .unset] (fun m => by first | (simp [entryFrame, mkF, argsToLocals, Value.category, maxLocals]; done) | rfl) ?_
  intro p e s m below meth c s₁ hx hby hml hown hret hlk hZ hnm X0 e0
  replace hml : c.maxLocals = 18 := hml
  replace X0 := own_S.of X0 (h0.size)
  have hn : h0.size ≤ h0.size := Nat.le_refl _
  refine own_gs 1 [(.int sz)] (fun t' k => XS.iloadN X0.here hx rfl (hb hby at_0) rfl  k) ?_
  refine own_gs 3 [(.int (2147483647 : Int32)), (.int sz)] (fun t' k => X0.ldcInt hx hown (mvT hZ (hw _ (List.mem_of_getElem? (i := 0) rfl))) (g := (mkF m 1 #[jv d, .second, iv sz, jv ov, .second, iv sel, .unset, .unset, .unset, .unset, .unset, .unset, .unset, .unset, .unset, .unset, .unset, .unset] [(.int sz)])) rfl (hb hby at_1) _ k) ?_
  refine own_gs 4 [(.int (sz &&& (2147483647 : Int32)))] (fun t' k => XS.iand X0.here hx rfl (hb hby at_3) rfl k) ?_
  refine own_gs 5 [(.int (5 : Int32)), (.int (sz &&& (2147483647 : Int32)))] (fun t' k => XS.iconst X0.here hx rfl (hb hby at_4) k) ?_
  refine own_gs 6 [(.int ((sz &&& (2147483647 : Int32)) - ((sz &&& (2147483647 : Int32)) / (5 : Int32)) * (5 : Int32)))] (fun t' k => XS.irem X0.here hx rfl (hb hby at_5) rfl (by decide) k) ?_
  obtain ⟨n1, hn1, hle1⟩ : ∃ n : Nat, (((sz &&& (2147483647 : Int32)) - ((sz &&& (2147483647 : Int32)) / (5 : Int32)) * (5 : Int32))).toInt = n ∧ n ≤ 4 := own_m5 _
  generalize ((sz &&& (2147483647 : Int32)) - ((sz &&& (2147483647 : Int32)) / (5 : Int32)) * (5 : Int32)) = na at hn1 ⊢
  refine own_go (mkF m 8 #[jv d, .second, iv sz, jv ov, .second, iv sel, iv na, .unset, .unset, .unset, .unset, .unset, .unset, .unset, .unset, .unset, .unset, .unset] []) (fun t' k => XS.istore X0.here hx rfl (hb hby at_6) rfl rfl k) ?_
  refine own_gs 9 [(.int sz)] (fun t' k => XS.iloadN X0.here hx rfl (hb hby at_8) rfl  k) ?_
  refine own_gs 11 [(.int (8 : Int32)), (.int sz)] (fun t' k => XS.bipush X0.here hx rfl (hb hby at_9) k) ?_
  refine own_gs 12 [(.int ((sz.toUInt32 >>> ((8 : Int32) &&& 31).toUInt32).toInt32))] (fun t' k => XS.iushr X0.here hx rfl (hb hby at_11) rfl k) ?_
  refine own_gs 14 [(.int (2147483647 : Int32)), (.int ((sz.toUInt32 >>> ((8 : Int32) &&& 31).toUInt32).toInt32))] (fun t' k => X0.ldcInt hx hown (mvT hZ (hw _ (List.mem_of_getElem? (i := 0) rfl))) (g := (mkF m 12 #[jv d, .second, iv sz, jv ov, .second, iv sel, iv na, .unset, .unset, .unset, .unset, .unset, .unset, .unset, .unset, .unset, .unset, .unset] [(.int ((sz.toUInt32 >>> ((8 : Int32) &&& 31).toUInt32).toInt32))])) rfl (hb hby at_12) _ k) ?_
  refine own_gs 15 [(.int (((sz.toUInt32 >>> ((8 : Int32) &&& 31).toUInt32).toInt32) &&& (2147483647 : Int32)))] (fun t' k => XS.iand X0.here hx rfl (hb hby at_14) rfl k) ?_
  refine own_gs 16 [(.int (5 : Int32)), (.int (((sz.toUInt32 >>> ((8 : Int32) &&& 31).toUInt32).toInt32) &&& (2147483647 : Int32)))] (fun t' k => XS.iconst X0.here hx rfl (hb hby at_15) k) ?_
  refine own_gs 17 [(.int ((((sz.toUInt32 >>> ((8 : Int32) &&& 31).toUInt32).toInt32) &&& (2147483647 : Int32)) - ((((sz.toUInt32 >>> ((8 : Int32) &&& 31).toUInt32).toInt32) &&& (2147483647 : Int32)) / (5 : Int32)) * (5 : Int32)))] (fun t' k => XS.irem X0.here hx rfl (hb hby at_16) rfl (by decide) k) ?_
  obtain ⟨n2, hn2, hle2⟩ : ∃ n : Nat, (((((sz.toUInt32 >>> ((8 : Int32) &&& 31).toUInt32).toInt32) &&& (2147483647 : Int32)) - ((((sz.toUInt32 >>> ((8 : Int32) &&& 31).toUInt32).toInt32) &&& (2147483647 : Int32)) / (5 : Int32)) * (5 : Int32))).toInt = n ∧ n ≤ 4 := own_m5 _
  generalize ((((sz.toUInt32 >>> ((8 : Int32) &&& 31).toUInt32).toInt32) &&& (2147483647 : Int32)) - ((((sz.toUInt32 >>> ((8 : Int32) &&& 31).toUInt32).toInt32) &&& (2147483647 : Int32)) / (5 : Int32)) * (5 : Int32)) = nb at hn2 ⊢
  refine own_go (mkF m 19 #[jv d, .second, iv sz, jv ov, .second, iv sel, iv na, iv nb, .unset, .unset, .unset, .unset, .unset, .unset, .unset, .unset, .unset, .unset] []) (fun t' k => XS.istore X0.here hx rfl (hb hby at_17) rfl rfl k) ?_
  refine own_gs 21 [(.int na)] (fun t' k => XS.iload X0.here hx rfl (hb hby at_19) rfl  k) ?_
  refine own_gs 23 [(.int nb), (.int na)] (fun t' k => XS.iload X0.here hx rfl (hb hby at_21) rfl  k) ?_
  refine own_gs 24 [(.int (na + nb))] (fun t' k => XS.iadd X0.here hx rfl (hb hby at_23) rfl k) ?_
  have htt : ((na + nb)).toInt = ((n1 + n2 : Nat) : Int) := by rw [Jvm.Kit.i32_add (by omega) (by omega)]; omega
  generalize (na + nb) = tt at htt ⊢
  refine own_go (mkF m 26 #[jv d, .second, iv sz, jv ov, .second, iv sel, iv na, iv nb, iv tt, .unset, .unset, .unset, .unset, .unset, .unset, .unset, .unset, .unset] []) (fun t' k => XS.istore X0.here hx rfl (hb hby at_24) rfl rfl k) ?_
  refine own_gs 27 [(.int (4 : Int32))] (fun t' k => XS.iconst X0.here hx rfl (hb hby at_26) k) ?_
  refine X0.newP hx hZ (hw _ (List.mem_of_getElem? (i := 1) rfl)) e0 4 (by decide) (hb hby at_27) 4 (by decide) (by decide) (by decide) (by decide) ?_
  intro T1 h1 b1 X1 e1 q1 xt1 A_b1
  have g_b1 : h0.size ≤ b1 := by rw [q1]; exact hn
  replace hn := Nat.le_trans hn xt1.1
  replace A_b1 : own_B Z h1 b1 4 (fun _ => 0) := own_B.new A_b1
  refine own_go (mkF m 31 #[jv d, .second, iv sz, jv ov, .second, iv sel, iv na, iv nb, iv tt, rv b1, .unset, .unset, .unset, .unset, .unset, .unset, .unset, .unset] []) (fun t' k => XS.astore X1.here hx rfl (hb hby at_29) rfl rfl rfl k) ?_
  refine own_gs 32 [(.int (4 : Int32))] (fun t' k => XS.iconst X1.here hx rfl (hb hby at_31) k) ?_
  refine X1.newP hx hZ (hw _ (List.mem_of_getElem? (i := 1) rfl)) e1 4 (by decide) (hb hby at_32) 4 (by decide) (by decide) (by decide) (by decide) ?_
  intro T2 h2 b2 X2 e2 q2 xt2 A_b2
  have g_b2 : h0.size ≤ b2 := by rw [q2]; exact hn
  have lt_b1_b2 : b1 < b2 := by rw [q2]; exact A_b1.lt
  replace A_b1 := A_b1.ext xt2
  replace hn := Nat.le_trans hn xt2.1
  replace A_b2 : own_B Z h2 b2 4 (fun _ => 0) := own_B.new A_b2
  refine own_go (mkF m 36 #[jv d, .second, iv sz, jv ov, .second, iv sel, iv na, iv nb, iv tt, rv b1, rv b2, .unset, .unset, .unset, .unset, .unset, .unset, .unset] []) (fun t' k => XS.astore X2.here hx rfl (hb hby at_34) rfl rfl rfl k) ?_
  refine own_gs 38 [(.ref b1)] (fun t' k => XS.aload X2.here hx rfl (hb hby at_36) rfl rfl  k) ?_
  refine own_gs 39 [(.int (0 : Int32)), (.ref b1)] (fun t' k => XS.iconst X2.here hx rfl (hb hby at_38) k) ?_
  refine own_gs 40 [(.long d), (.int (0 : Int32)), (.ref b1)] (fun t' k => XS.lloadN X2.here hx rfl (hb hby at_39) rfl  k) ?_
  refine own_gs 41 [(.int (0 : Int32)), (.long d), (.int (0 : Int32)), (.ref b1)] (fun t' k => XS.iconst X2.here hx rfl (hb hby at_40) k) ?_
  refine X2.callP hx hZ (y := (⟨"com/example/vocab_scan/vocabscan/WordEdgesBytesBeforePinLaw", "byteOf", "(JI)J"⟩ : MethodName)) (fr := 0) (lo := 0) (r := (.long (own_by d (0 : Int32)))) hown (hw _ (List.mem_of_getElem? (i := 2) rfl)) (hw _ (List.mem_of_getElem? (i := 3) rfl)) (hw _ (List.mem_of_getElem? (i := 4) rfl)) (hw _ (List.mem_of_getElem? (i := 5) rfl)) (by decide) e2 [(.long d), (.int (0 : Int32))] [(.int (0 : Int32)), (.ref b1)] (own_byC l Z a0 hw [] h2 d (0 : Int32)) 2 (by decide) (by decide) (Nat.le_of_eq rfl) (by decide) (by decide) (by rw [hml]; rfl) (lenOf own_pd6 rfl) rfl (hb hby at_41) ?_
  intro T3 X3 e3
  refine own_gs 45 [(.int ((own_by d (0 : Int32)).toInt32)), (.int (0 : Int32)), (.ref b1)] (fun t' k => XS.l2i X3.here hx rfl (hb hby at_44) rfl k) ?_
  refine own_gs 46 [(.int (((own_by d (0 : Int32)).toInt32).toInt8.toInt32)), (.int (0 : Int32)), (.ref b1)] (fun t' k => XS.i2b X3.here hx rfl (hb hby at_45) rfl k) ?_
  refine X3.stBf hx hZ e3 A_b1 g_b1 0 (by decide) (by decide) (hb hby at_46) ?_
  intro T4 h4 X4 e4 W4 A4
  replace A_b1 := A4
  replace A_b2 := A_b2.other W4 (Ne.symm (Nat.ne_of_lt lt_b1_b2))
  replace hn := Nat.le_trans hn (Keep.of_wr W4).1
  refine own_gs 49 [(.ref b1)] (fun t' k => XS.aload X4.here hx rfl (hb hby at_47) rfl rfl  k) ?_
  refine own_gs 50 [(.int (1 : Int32)), (.ref b1)] (fun t' k => XS.iconst X4.here hx rfl (hb hby at_49) k) ?_
  refine own_gs 51 [(.long d), (.int (1 : Int32)), (.ref b1)] (fun t' k => XS.lloadN X4.here hx rfl (hb hby at_50) rfl  k) ?_
  refine own_gs 52 [(.int (1 : Int32)), (.long d), (.int (1 : Int32)), (.ref b1)] (fun t' k => XS.iconst X4.here hx rfl (hb hby at_51) k) ?_
  refine X4.callP hx hZ (y := (⟨"com/example/vocab_scan/vocabscan/WordEdgesBytesBeforePinLaw", "byteOf", "(JI)J"⟩ : MethodName)) (fr := 0) (lo := 0) (r := (.long (own_by d (1 : Int32)))) hown (hw _ (List.mem_of_getElem? (i := 2) rfl)) (hw _ (List.mem_of_getElem? (i := 3) rfl)) (hw _ (List.mem_of_getElem? (i := 4) rfl)) (hw _ (List.mem_of_getElem? (i := 5) rfl)) (by decide) e4 [(.long d), (.int (1 : Int32))] [(.int (1 : Int32)), (.ref b1)] (own_byC l Z a0 hw [] h4 d (1 : Int32)) 2 (by decide) (by decide) (Nat.le_of_eq rfl) (by decide) (by decide) (by rw [hml]; rfl) (lenOf own_pd6 rfl) rfl (hb hby at_52) ?_
  intro T5 X5 e5
  refine own_gs 56 [(.int ((own_by d (1 : Int32)).toInt32)), (.int (1 : Int32)), (.ref b1)] (fun t' k => XS.l2i X5.here hx rfl (hb hby at_55) rfl k) ?_
  refine own_gs 57 [(.int (((own_by d (1 : Int32)).toInt32).toInt8.toInt32)), (.int (1 : Int32)), (.ref b1)] (fun t' k => XS.i2b X5.here hx rfl (hb hby at_56) rfl k) ?_
  refine X5.stBf hx hZ e5 A_b1 g_b1 1 (by decide) (by decide) (hb hby at_57) ?_
  intro T6 h6 X6 e6 W6 A6
  replace A_b1 := A6
  replace A_b2 := A_b2.other W6 (Ne.symm (Nat.ne_of_lt lt_b1_b2))
  replace hn := Nat.le_trans hn (Keep.of_wr W6).1
  refine own_gs 60 [(.ref b1)] (fun t' k => XS.aload X6.here hx rfl (hb hby at_58) rfl rfl  k) ?_
  refine own_gs 61 [(.int (2 : Int32)), (.ref b1)] (fun t' k => XS.iconst X6.here hx rfl (hb hby at_60) k) ?_
  refine own_gs 62 [(.long d), (.int (2 : Int32)), (.ref b1)] (fun t' k => XS.lloadN X6.here hx rfl (hb hby at_61) rfl  k) ?_
  refine own_gs 63 [(.int (2 : Int32)), (.long d), (.int (2 : Int32)), (.ref b1)] (fun t' k => XS.iconst X6.here hx rfl (hb hby at_62) k) ?_
  refine X6.callP hx hZ (y := (⟨"com/example/vocab_scan/vocabscan/WordEdgesBytesBeforePinLaw", "byteOf", "(JI)J"⟩ : MethodName)) (fr := 0) (lo := 0) (r := (.long (own_by d (2 : Int32)))) hown (hw _ (List.mem_of_getElem? (i := 2) rfl)) (hw _ (List.mem_of_getElem? (i := 3) rfl)) (hw _ (List.mem_of_getElem? (i := 4) rfl)) (hw _ (List.mem_of_getElem? (i := 5) rfl)) (by decide) e6 [(.long d), (.int (2 : Int32))] [(.int (2 : Int32)), (.ref b1)] (own_byC l Z a0 hw [] h6 d (2 : Int32)) 2 (by decide) (by decide) (Nat.le_of_eq rfl) (by decide) (by decide) (by rw [hml]; rfl) (lenOf own_pd6 rfl) rfl (hb hby at_63) ?_
  intro T7 X7 e7
  refine own_gs 67 [(.int ((own_by d (2 : Int32)).toInt32)), (.int (2 : Int32)), (.ref b1)] (fun t' k => XS.l2i X7.here hx rfl (hb hby at_66) rfl k) ?_
  refine own_gs 68 [(.int (((own_by d (2 : Int32)).toInt32).toInt8.toInt32)), (.int (2 : Int32)), (.ref b1)] (fun t' k => XS.i2b X7.here hx rfl (hb hby at_67) rfl k) ?_
  refine X7.stBf hx hZ e7 A_b1 g_b1 2 (by decide) (by decide) (hb hby at_68) ?_
  intro T8 h8 X8 e8 W8 A8
  replace A_b1 := A8
  replace A_b2 := A_b2.other W8 (Ne.symm (Nat.ne_of_lt lt_b1_b2))
  replace hn := Nat.le_trans hn (Keep.of_wr W8).1
  refine own_gs 71 [(.ref b1)] (fun t' k => XS.aload X8.here hx rfl (hb hby at_69) rfl rfl  k) ?_
  refine own_gs 72 [(.int (3 : Int32)), (.ref b1)] (fun t' k => XS.iconst X8.here hx rfl (hb hby at_71) k) ?_
  refine own_gs 73 [(.long d), (.int (3 : Int32)), (.ref b1)] (fun t' k => XS.lloadN X8.here hx rfl (hb hby at_72) rfl  k) ?_
  refine own_gs 74 [(.int (3 : Int32)), (.long d), (.int (3 : Int32)), (.ref b1)] (fun t' k => XS.iconst X8.here hx rfl (hb hby at_73) k) ?_
  refine X8.callP hx hZ (y := (⟨"com/example/vocab_scan/vocabscan/WordEdgesBytesBeforePinLaw", "byteOf", "(JI)J"⟩ : MethodName)) (fr := 0) (lo := 0) (r := (.long (own_by d (3 : Int32)))) hown (hw _ (List.mem_of_getElem? (i := 2) rfl)) (hw _ (List.mem_of_getElem? (i := 3) rfl)) (hw _ (List.mem_of_getElem? (i := 4) rfl)) (hw _ (List.mem_of_getElem? (i := 5) rfl)) (by decide) e8 [(.long d), (.int (3 : Int32))] [(.int (3 : Int32)), (.ref b1)] (own_byC l Z a0 hw [] h8 d (3 : Int32)) 2 (by decide) (by decide) (Nat.le_of_eq rfl) (by decide) (by decide) (by rw [hml]; rfl) (lenOf own_pd6 rfl) rfl (hb hby at_74) ?_
  intro T9 X9 e9
  refine own_gs 78 [(.int ((own_by d (3 : Int32)).toInt32)), (.int (3 : Int32)), (.ref b1)] (fun t' k => XS.l2i X9.here hx rfl (hb hby at_77) rfl k) ?_
  refine own_gs 79 [(.int (((own_by d (3 : Int32)).toInt32).toInt8.toInt32)), (.int (3 : Int32)), (.ref b1)] (fun t' k => XS.i2b X9.here hx rfl (hb hby at_78) rfl k) ?_
  refine X9.stBf hx hZ e9 A_b1 g_b1 3 (by decide) (by decide) (hb hby at_79) ?_
  intro T10 h10 X10 e10 W10 A10
  replace A_b1 := A10
  replace A_b2 := A_b2.other W10 (Ne.symm (Nat.ne_of_lt lt_b1_b2))
  replace hn := Nat.le_trans hn (Keep.of_wr W10).1
  replace A_b1 : own_B Z h10 b1 4 (fun k => own_bt d k) := A_b1.eq (fun k hk => by rcases (by omega : k = 0 ∨ k = 1 ∨ k = 2 ∨ k = 3) with rfl | rfl | rfl | rfl <;> rfl)
  refine own_gs 82 [(.ref b2)] (fun t' k => XS.aload X10.here hx rfl (hb hby at_80) rfl rfl  k) ?_
  refine own_gs 83 [(.int (0 : Int32)), (.ref b2)] (fun t' k => XS.iconst X10.here hx rfl (hb hby at_82) k) ?_
  refine own_gs 84 [(.long d), (.int (0 : Int32)), (.ref b2)] (fun t' k => XS.lloadN X10.here hx rfl (hb hby at_83) rfl  k) ?_
  refine own_gs 86 [(.int na), (.long d), (.int (0 : Int32)), (.ref b2)] (fun t' k => XS.iload X10.here hx rfl (hb hby at_84) rfl  k) ?_
  refine X10.callP hx hZ (y := (⟨"com/example/vocab_scan/vocabscan/WordEdgesBytesBeforePinLaw", "byteOf", "(JI)J"⟩ : MethodName)) (fr := 0) (lo := 0) (r := (.long (own_by d na))) hown (hw _ (List.mem_of_getElem? (i := 2) rfl)) (hw _ (List.mem_of_getElem? (i := 3) rfl)) (hw _ (List.mem_of_getElem? (i := 4) rfl)) (hw _ (List.mem_of_getElem? (i := 5) rfl)) (by decide) e10 [(.long d), (.int na)] [(.int (0 : Int32)), (.ref b2)] (own_byC l Z a0 hw [] h10 d na) 2 (by decide) (by decide) (Nat.le_of_eq rfl) (by decide) (by decide) (by rw [hml]; rfl) (lenOf own_pd6 rfl) rfl (hb hby at_86) ?_
  intro T11 X11 e11
  refine own_gs 90 [(.int ((own_by d na).toInt32)), (.int (0 : Int32)), (.ref b2)] (fun t' k => XS.l2i X11.here hx rfl (hb hby at_89) rfl k) ?_
  refine own_gs 91 [(.int (((own_by d na).toInt32).toInt8.toInt32)), (.int (0 : Int32)), (.ref b2)] (fun t' k => XS.i2b X11.here hx rfl (hb hby at_90) rfl k) ?_
  refine X11.stBf hx hZ e11 A_b2 g_b2 0 (by decide) (by decide) (hb hby at_91) ?_
  intro T12 h12 X12 e12 W12 A12
  replace A_b2 := A12
  replace A_b1 := A_b1.other W12 (Nat.ne_of_lt lt_b1_b2)
  replace hn := Nat.le_trans hn (Keep.of_wr W12).1
  refine own_gs 94 [(.ref b2)] (fun t' k => XS.aload X12.here hx rfl (hb hby at_92) rfl rfl  k) ?_
  refine own_gs 95 [(.int (1 : Int32)), (.ref b2)] (fun t' k => XS.iconst X12.here hx rfl (hb hby at_94) k) ?_
  refine own_gs 96 [(.long d), (.int (1 : Int32)), (.ref b2)] (fun t' k => XS.lloadN X12.here hx rfl (hb hby at_95) rfl  k) ?_
  refine own_gs 98 [(.int na), (.long d), (.int (1 : Int32)), (.ref b2)] (fun t' k => XS.iload X12.here hx rfl (hb hby at_96) rfl  k) ?_
  refine own_gs 99 [(.int (1 : Int32)), (.int na), (.long d), (.int (1 : Int32)), (.ref b2)] (fun t' k => XS.iconst X12.here hx rfl (hb hby at_98) k) ?_
  refine own_gs 100 [(.int (na + (1 : Int32))), (.long d), (.int (1 : Int32)), (.ref b2)] (fun t' k => XS.iadd X12.here hx rfl (hb hby at_99) rfl k) ?_
  refine X12.callP hx hZ (y := (⟨"com/example/vocab_scan/vocabscan/WordEdgesBytesBeforePinLaw", "byteOf", "(JI)J"⟩ : MethodName)) (fr := 0) (lo := 0) (r := (.long (own_by d (na + (1 : Int32))))) hown (hw _ (List.mem_of_getElem? (i := 2) rfl)) (hw _ (List.mem_of_getElem? (i := 3) rfl)) (hw _ (List.mem_of_getElem? (i := 4) rfl)) (hw _ (List.mem_of_getElem? (i := 5) rfl)) (by decide) e12 [(.long d), (.int (na + (1 : Int32)))] [(.int (1 : Int32)), (.ref b2)] (own_byC l Z a0 hw [] h12 d (na + (1 : Int32))) 2 (by decide) (by decide) (Nat.le_of_eq rfl) (by decide) (by decide) (by rw [hml]; rfl) (lenOf own_pd6 rfl) rfl (hb hby at_100) ?_
  intro T13 X13 e13
  refine own_gs 104 [(.int ((own_by d (na + (1 : Int32))).toInt32)), (.int (1 : Int32)), (.ref b2)] (fun t' k => XS.l2i X13.here hx rfl (hb hby at_103) rfl k) ?_
  refine own_gs 105 [(.int (((own_by d (na + (1 : Int32))).toInt32).toInt8.toInt32)), (.int (1 : Int32)), (.ref b2)] (fun t' k => XS.i2b X13.here hx rfl (hb hby at_104) rfl k) ?_
  refine X13.stBf hx hZ e13 A_b2 g_b2 1 (by decide) (by decide) (hb hby at_105) ?_
  intro T14 h14 X14 e14 W14 A14
  replace A_b2 := A14
  replace A_b1 := A_b1.other W14 (Nat.ne_of_lt lt_b1_b2)
  replace hn := Nat.le_trans hn (Keep.of_wr W14).1
  refine own_gs 108 [(.ref b2)] (fun t' k => XS.aload X14.here hx rfl (hb hby at_106) rfl rfl  k) ?_
  refine own_gs 109 [(.int (2 : Int32)), (.ref b2)] (fun t' k => XS.iconst X14.here hx rfl (hb hby at_108) k) ?_
  refine own_gs 110 [(.long d), (.int (2 : Int32)), (.ref b2)] (fun t' k => XS.lloadN X14.here hx rfl (hb hby at_109) rfl  k) ?_
  refine own_gs 112 [(.int na), (.long d), (.int (2 : Int32)), (.ref b2)] (fun t' k => XS.iload X14.here hx rfl (hb hby at_110) rfl  k) ?_
  refine own_gs 113 [(.int (2 : Int32)), (.int na), (.long d), (.int (2 : Int32)), (.ref b2)] (fun t' k => XS.iconst X14.here hx rfl (hb hby at_112) k) ?_
  refine own_gs 114 [(.int (na + (2 : Int32))), (.long d), (.int (2 : Int32)), (.ref b2)] (fun t' k => XS.iadd X14.here hx rfl (hb hby at_113) rfl k) ?_
  refine X14.callP hx hZ (y := (⟨"com/example/vocab_scan/vocabscan/WordEdgesBytesBeforePinLaw", "byteOf", "(JI)J"⟩ : MethodName)) (fr := 0) (lo := 0) (r := (.long (own_by d (na + (2 : Int32))))) hown (hw _ (List.mem_of_getElem? (i := 2) rfl)) (hw _ (List.mem_of_getElem? (i := 3) rfl)) (hw _ (List.mem_of_getElem? (i := 4) rfl)) (hw _ (List.mem_of_getElem? (i := 5) rfl)) (by decide) e14 [(.long d), (.int (na + (2 : Int32)))] [(.int (2 : Int32)), (.ref b2)] (own_byC l Z a0 hw [] h14 d (na + (2 : Int32))) 2 (by decide) (by decide) (Nat.le_of_eq rfl) (by decide) (by decide) (by rw [hml]; rfl) (lenOf own_pd6 rfl) rfl (hb hby at_114) ?_
  intro T15 X15 e15
  refine own_gs 118 [(.int ((own_by d (na + (2 : Int32))).toInt32)), (.int (2 : Int32)), (.ref b2)] (fun t' k => XS.l2i X15.here hx rfl (hb hby at_117) rfl k) ?_
  refine own_gs 119 [(.int (((own_by d (na + (2 : Int32))).toInt32).toInt8.toInt32)), (.int (2 : Int32)), (.ref b2)] (fun t' k => XS.i2b X15.here hx rfl (hb hby at_118) rfl k) ?_
  refine X15.stBf hx hZ e15 A_b2 g_b2 2 (by decide) (by decide) (hb hby at_119) ?_
  intro T16 h16 X16 e16 W16 A16
  replace A_b2 := A16
  replace A_b1 := A_b1.other W16 (Nat.ne_of_lt lt_b1_b2)
  replace hn := Nat.le_trans hn (Keep.of_wr W16).1
  refine own_gs 122 [(.ref b2)] (fun t' k => XS.aload X16.here hx rfl (hb hby at_120) rfl rfl  k) ?_
  refine own_gs 123 [(.int (3 : Int32)), (.ref b2)] (fun t' k => XS.iconst X16.here hx rfl (hb hby at_122) k) ?_
  refine own_gs 124 [(.long d), (.int (3 : Int32)), (.ref b2)] (fun t' k => XS.lloadN X16.here hx rfl (hb hby at_123) rfl  k) ?_
  refine own_gs 126 [(.int na), (.long d), (.int (3 : Int32)), (.ref b2)] (fun t' k => XS.iload X16.here hx rfl (hb hby at_124) rfl  k) ?_
  refine own_gs 127 [(.int (3 : Int32)), (.int na), (.long d), (.int (3 : Int32)), (.ref b2)] (fun t' k => XS.iconst X16.here hx rfl (hb hby at_126) k) ?_
  refine own_gs 128 [(.int (na + (3 : Int32))), (.long d), (.int (3 : Int32)), (.ref b2)] (fun t' k => XS.iadd X16.here hx rfl (hb hby at_127) rfl k) ?_
  refine X16.callP hx hZ (y := (⟨"com/example/vocab_scan/vocabscan/WordEdgesBytesBeforePinLaw", "byteOf", "(JI)J"⟩ : MethodName)) (fr := 0) (lo := 0) (r := (.long (own_by d (na + (3 : Int32))))) hown (hw _ (List.mem_of_getElem? (i := 2) rfl)) (hw _ (List.mem_of_getElem? (i := 3) rfl)) (hw _ (List.mem_of_getElem? (i := 4) rfl)) (hw _ (List.mem_of_getElem? (i := 5) rfl)) (by decide) e16 [(.long d), (.int (na + (3 : Int32)))] [(.int (3 : Int32)), (.ref b2)] (own_byC l Z a0 hw [] h16 d (na + (3 : Int32))) 2 (by decide) (by decide) (Nat.le_of_eq rfl) (by decide) (by decide) (by rw [hml]; rfl) (lenOf own_pd6 rfl) rfl (hb hby at_128) ?_
  intro T17 X17 e17
  refine own_gs 132 [(.int ((own_by d (na + (3 : Int32))).toInt32)), (.int (3 : Int32)), (.ref b2)] (fun t' k => XS.l2i X17.here hx rfl (hb hby at_131) rfl k) ?_
  refine own_gs 133 [(.int (((own_by d (na + (3 : Int32))).toInt32).toInt8.toInt32)), (.int (3 : Int32)), (.ref b2)] (fun t' k => XS.i2b X17.here hx rfl (hb hby at_132) rfl k) ?_
  refine X17.stBf hx hZ e17 A_b2 g_b2 3 (by decide) (by decide) (hb hby at_133) ?_
  intro T18 h18 X18 e18 W18 A18
  replace A_b2 := A18
  replace A_b1 := A_b1.other W18 (Nat.ne_of_lt lt_b1_b2)
  replace hn := Nat.le_trans hn (Keep.of_wr W18).1
  have j0 := own_n0 hn1 hle1
  have j1 := own_nadd 1 hn1 hle1 (by decide)
  have j2 := own_nadd 2 hn1 hle1 (by decide)
  have j3 := own_nadd 3 hn1 hle1 (by decide)
  replace A_b2 : own_B Z h18 b2 4 (fun k => own_bt d (n1 + k)) := A_b2.eq (fun k hk => by
    rcases (by omega : k = 0 ∨ k = 1 ∨ k = 2 ∨ k = 3) with rfl | rfl | rfl | rfl
    · show ((((own_by d na).toInt32).toInt8.toInt32).toInt8.toInt32) = own_bt d n1; unfold own_bt; rw [← j0]
    · show ((((own_by d (na + (1 : Int32))).toInt32).toInt8.toInt32).toInt8.toInt32) = own_bt d (n1 + 1); unfold own_bt; rw [← j1]; rfl
    · show ((((own_by d (na + (2 : Int32))).toInt32).toInt8.toInt32).toInt8.toInt32) = own_bt d (n1 + 2); unfold own_bt; rw [← j2]; rfl
    · show ((((own_by d (na + (3 : Int32))).toInt32).toInt8.toInt32).toInt8.toInt32) = own_bt d (n1 + 3); unfold own_bt; rw [← j3]; rfl)
  refine X18.newO hx hZ hown (hw _ (List.mem_of_getElem? (i := 7) rfl)) (hw _ (List.mem_of_getElem? (i := 8) rfl)) (hw _ (List.mem_of_getElem? (i := 9) rfl)) e18 (hb hby at_134) (by decide) (by decide) ?_
  intro T19 h19 b19 X19 e19 q19 xt19 E_b19 D19
  have g_b19 : h0.size ≤ b19 := by rw [q19]; exact hn
  have lt_b1_b19 : b1 < b19 := by rw [q19]; exact A_b1.lt
  have lt_b2_b19 : b2 < b19 := by rw [q19]; exact A_b2.lt
  replace A_b1 := A_b1.ext xt19
  replace A_b2 := A_b2.ext xt19
  replace hn := Nat.le_trans hn xt19.1
  have F_b19_ring : Fld Z h19 b19 "com/example/vocab_scan/vocabscan/WordEdges" "ring" "[B" .null := D19 (Or.inl (hw _ (List.mem_of_getElem? (i := 17) rfl))) (ty := (.array .byte)) (by decide)
  have F_b19_behind : Fld Z h19 b19 "com/example/vocab_scan/vocabscan/WordEdges" "behind" "J" (.long (0 : Int64)) := D19 (Or.inl (hw _ (List.mem_of_getElem? (i := 20) rfl))) (ty := .long) (by decide)
  have F_b19_handing : Fld Z h19 b19 "com/example/vocab_scan/vocabscan/WordEdges" "handing" "[B" .null := D19 (Or.inl (hw _ (List.mem_of_getElem? (i := 22) rfl))) (ty := (.array .byte)) (by decide)
  have F_b19_character : Fld Z h19 b19 "com/example/vocab_scan/vocabscan/WordEdges" "character" "[B" .null := D19 (Or.inr (hw _ (List.mem_of_getElem? (i := 24) rfl))) (ty := (.array .byte)) (by decide)
  have F_b19_walk : Fld Z h19 b19 "com/example/vocab_scan/vocabscan/WordEdges" "walk" "Lcom/example/vocab_scan/vocabscan/Walk;" .null := D19 (Or.inl (hw _ (List.mem_of_getElem? (i := 31) rfl))) (ty := (.object "com/example/vocab_scan/vocabscan/Walk")) (by decide)
  have F_b19_handed : Fld Z h19 b19 "com/example/vocab_scan/vocabscan/WordEdges" "handed" "J" (.long (0 : Int64)) := D19 (Or.inl (hw _ (List.mem_of_getElem? (i := 42) rfl))) (ty := .long) (by decide)
  have F_b19_received : Fld Z h19 b19 "com/example/vocab_scan/vocabscan/WordEdges" "received" "J" (.long (0 : Int64)) := D19 (Or.inl (hw _ (List.mem_of_getElem? (i := 48) rfl))) (ty := .long) (by decide)
  refine own_gs 138 [(.ref b19), (.ref b19)] (fun t' k => XS.dup X19.here hx rfl (hb hby at_137) rfl rfl k) ?_
  refine X19.callI hx hZ (y := (⟨"com/example/vocab_scan/vocabscan/WordEdges", "<init>", "()V"⟩ : MethodName)) rfl hown (hw _ (List.mem_of_getElem? (i := 10) rfl)) (hw _ (List.mem_of_getElem? (i := 11) rfl)) (hw _ (List.mem_of_getElem? (i := 9) rfl)) (hw _ (List.mem_of_getElem? (i := 12) rfl)) (by decide) e19 b19 [] [(.ref b19)] (own_inC l Z a0 hw [] h19 h0.size hn b19 g_b19 E_b19 F_b19_ring F_b19_behind F_b19_handing F_b19_walk F_b19_received F_b19_handed F_b19_character) 1 (by decide) (by decide) (Nat.le_of_eq rfl) (by decide) (by decide) (by rw [hml]; rfl) (lenOf own_pd7 rfl) rfl (hb hby at_138) ?_
  rintro T20 _ X20 ⟨rfl, hn20, K20, ra1, ha1, ⟨g_ra1, sz_ra1, g_ha1, sz_ha1, ne_r1, ne_or1, ne_oh1⟩, HW1, A_ra1, A_ha1⟩
  have lt_b1_ra1 : b1 < ra1 := Nat.lt_of_lt_of_le A_b1.lt sz_ra1
  have lt_b1_ha1 : b1 < ha1 := Nat.lt_of_lt_of_le A_b1.lt sz_ha1
  have lt_b2_ra1 : b2 < ra1 := Nat.lt_of_lt_of_le A_b2.lt sz_ra1
  have lt_b2_ha1 : b2 < ha1 := Nat.lt_of_lt_of_le A_b2.lt sz_ha1
  replace A_b1 := A_b1.keep K20 (ninS (Nat.ne_of_lt lt_b1_b19) nin0)
  replace A_b2 := A_b2.keep K20 (ninS (Nat.ne_of_lt lt_b2_b19) nin0)
  replace hn := Nat.le_trans hn K20.1
  show own_G p e below s _ _ _ T20 (mkF m 141 #[jv d, .second, iv sz, jv ov, .second, iv sel, iv na, iv nb, iv tt, rv b1, rv b2, .unset, .unset, .unset, .unset, .unset, .unset, .unset] [(.ref b19)])
  refine own_go (mkF m 143 #[jv d, .second, iv sz, jv ov, .second, iv sel, iv na, iv nb, iv tt, rv b1, rv b2, rv b19, .unset, .unset, .unset, .unset, .unset, .unset] []) (fun t' k => XS.astore X20.here hx rfl (hb hby at_141) rfl rfl rfl k) ?_
  refine X20.newO hx hZ hown (hw _ (List.mem_of_getElem? (i := 7) rfl)) (hw _ (List.mem_of_getElem? (i := 8) rfl)) (hw _ (List.mem_of_getElem? (i := 9) rfl)) rfl (hb hby at_143) (by decide) (by decide) ?_
  intro T21 h21 b21 X21 e21 q21 xt21 E_b21 D21
  have g_b21 : h0.size ≤ b21 := by rw [q21]; exact hn
  have lt_b1_b21 : b1 < b21 := by rw [q21]; exact A_b1.lt
  have lt_b2_b21 : b2 < b21 := by rw [q21]; exact A_b2.lt
  have lt_b19_b21 : b19 < b21 := by rw [q21]; exact HW1.lt
  have lt_ra1_b21 : ra1 < b21 := by rw [q21]; exact A_ra1.lt
  have lt_ha1_b21 : ha1 < b21 := by rw [q21]; exact A_ha1.lt
  replace A_b1 := A_b1.ext xt21
  replace A_b2 := A_b2.ext xt21
  replace HW1 := HW1.ext xt21
  replace A_ra1 := A_ra1.ext xt21
  replace A_ha1 := A_ha1.ext xt21
  replace hn := Nat.le_trans hn xt21.1
  have F_b21_ring : Fld Z h21 b21 "com/example/vocab_scan/vocabscan/WordEdges" "ring" "[B" .null := D21 (Or.inl (hw _ (List.mem_of_getElem? (i := 17) rfl))) (ty := (.array .byte)) (by decide)
  have F_b21_behind : Fld Z h21 b21 "com/example/vocab_scan/vocabscan/WordEdges" "behind" "J" (.long (0 : Int64)) := D21 (Or.inl (hw _ (List.mem_of_getElem? (i := 20) rfl))) (ty := .long) (by decide)
  have F_b21_handing : Fld Z h21 b21 "com/example/vocab_scan/vocabscan/WordEdges" "handing" "[B" .null := D21 (Or.inl (hw _ (List.mem_of_getElem? (i := 22) rfl))) (ty := (.array .byte)) (by decide)
  have F_b21_character : Fld Z h21 b21 "com/example/vocab_scan/vocabscan/WordEdges" "character" "[B" .null := D21 (Or.inr (hw _ (List.mem_of_getElem? (i := 24) rfl))) (ty := (.array .byte)) (by decide)
  have F_b21_walk : Fld Z h21 b21 "com/example/vocab_scan/vocabscan/WordEdges" "walk" "Lcom/example/vocab_scan/vocabscan/Walk;" .null := D21 (Or.inl (hw _ (List.mem_of_getElem? (i := 31) rfl))) (ty := (.object "com/example/vocab_scan/vocabscan/Walk")) (by decide)
  have F_b21_handed : Fld Z h21 b21 "com/example/vocab_scan/vocabscan/WordEdges" "handed" "J" (.long (0 : Int64)) := D21 (Or.inl (hw _ (List.mem_of_getElem? (i := 42) rfl))) (ty := .long) (by decide)
  have F_b21_received : Fld Z h21 b21 "com/example/vocab_scan/vocabscan/WordEdges" "received" "J" (.long (0 : Int64)) := D21 (Or.inl (hw _ (List.mem_of_getElem? (i := 48) rfl))) (ty := .long) (by decide)
  refine own_gs 147 [(.ref b21), (.ref b21)] (fun t' k => XS.dup X21.here hx rfl (hb hby at_146) rfl rfl k) ?_
  refine X21.callI hx hZ (y := (⟨"com/example/vocab_scan/vocabscan/WordEdges", "<init>", "()V"⟩ : MethodName)) rfl hown (hw _ (List.mem_of_getElem? (i := 10) rfl)) (hw _ (List.mem_of_getElem? (i := 11) rfl)) (hw _ (List.mem_of_getElem? (i := 9) rfl)) (hw _ (List.mem_of_getElem? (i := 12) rfl)) (by decide) e21 b21 [] [(.ref b21)] (own_inC l Z a0 hw [] h21 h0.size hn b21 g_b21 E_b21 F_b21_ring F_b21_behind F_b21_handing F_b21_walk F_b21_received F_b21_handed F_b21_character) 1 (by decide) (by decide) (Nat.le_of_eq rfl) (by decide) (by decide) (by rw [hml]; rfl) (lenOf own_pd7 rfl) rfl (hb hby at_147) ?_
  rintro T22 _ X22 ⟨rfl, hn22, K22, ra2, ha2, ⟨g_ra2, sz_ra2, g_ha2, sz_ha2, ne_r2, ne_or2, ne_oh2⟩, HW2, A_ra2, A_ha2⟩
  have lt_b1_ra2 : b1 < ra2 := Nat.lt_of_lt_of_le A_b1.lt sz_ra2
  have lt_b1_ha2 : b1 < ha2 := Nat.lt_of_lt_of_le A_b1.lt sz_ha2
  have lt_b2_ra2 : b2 < ra2 := Nat.lt_of_lt_of_le A_b2.lt sz_ra2
  have lt_b2_ha2 : b2 < ha2 := Nat.lt_of_lt_of_le A_b2.lt sz_ha2
  have lt_b19_ra2 : b19 < ra2 := Nat.lt_of_lt_of_le HW1.lt sz_ra2
  have lt_b19_ha2 : b19 < ha2 := Nat.lt_of_lt_of_le HW1.lt sz_ha2
  have lt_ra1_ra2 : ra1 < ra2 := Nat.lt_of_lt_of_le A_ra1.lt sz_ra2
  have lt_ra1_ha2 : ra1 < ha2 := Nat.lt_of_lt_of_le A_ra1.lt sz_ha2
  have lt_ha1_ra2 : ha1 < ra2 := Nat.lt_of_lt_of_le A_ha1.lt sz_ra2
  have lt_ha1_ha2 : ha1 < ha2 := Nat.lt_of_lt_of_le A_ha1.lt sz_ha2
  replace A_b1 := A_b1.keep K22 (ninS (Nat.ne_of_lt lt_b1_b21) nin0)
  replace A_b2 := A_b2.keep K22 (ninS (Nat.ne_of_lt lt_b2_b21) nin0)
  replace HW1 := HW1.keep K22 (ninS (Nat.ne_of_lt lt_b19_b21) nin0)
  replace A_ra1 := A_ra1.keep K22 (ninS (Nat.ne_of_lt lt_ra1_b21) nin0)
  replace A_ha1 := A_ha1.keep K22 (ninS (Nat.ne_of_lt lt_ha1_b21) nin0)
  replace hn := Nat.le_trans hn K22.1
  show own_G p e below s _ _ _ T22 (mkF m 150 #[jv d, .second, iv sz, jv ov, .second, iv sel, iv na, iv nb, iv tt, rv b1, rv b2, rv b19, .unset, .unset, .unset, .unset, .unset, .unset] [(.ref b21)])
  refine own_go (mkF m 152 #[jv d, .second, iv sz, jv ov, .second, iv sel, iv na, iv nb, iv tt, rv b1, rv b2, rv b19, rv b21, .unset, .unset, .unset, .unset, .unset] []) (fun t' k => XS.astore X22.here hx rfl (hb hby at_150) rfl rfl rfl k) ?_
  refine own_gs 154 [(.ref b19)] (fun t' k => XS.aload X22.here hx rfl (hb hby at_152) rfl rfl  k) ?_
  refine own_gs 156 [(.ref b21), (.ref b19)] (fun t' k => XS.aload X22.here hx rfl (hb hby at_154) rfl rfl  k) ?_
  refine X22.callV hx hZ (y := (⟨"com/example/vocab_scan/vocabscan/WordEdges", "lagging", "(Lcom/example/vocab_scan/vocabscan/Walk;)Lcom/example/vocab_scan/vocabscan/Walk;"⟩ : MethodName)) (C := "com/example/vocab_scan/vocabscan/WordEdges") hown (hw _ (List.mem_of_getElem? (i := 25) rfl)) (hw _ (List.mem_of_getElem? (i := 26) rfl)) (hw _ (List.mem_of_getElem? (i := 28) rfl)) (hw _ (List.mem_of_getElem? (i := 27) rfl)) (hw _ (List.mem_of_getElem? (i := 9) rfl)) (hw _ (List.mem_of_getElem? (i := 29) rfl)) (by decide) rfl HW1.1 [(.ref b21)] [] (own_laC l Z a0 hw [] T22.heap h0.size hn b19 b21 ra1 ha1 g_b19 HW1) 0 (by decide) (by decide) (Nat.le_of_eq rfl) (by decide) (by decide) (by rw [hml]; rfl) (lenOf own_pd8 rfl) rfl (hb hby at_156) ?_
  rintro T23 _ X23 ⟨rfl, hn23, K23, HW1n⟩
  replace A_b1 := A_b1.keep K23 (ninS (Nat.ne_of_lt lt_b1_b19) nin0)
  replace A_b2 := A_b2.keep K23 (ninS (Nat.ne_of_lt lt_b2_b19) nin0)
  replace A_ra1 := A_ra1.keep K23 (ninS (Ne.symm ne_or1) nin0)
  replace A_ha1 := A_ha1.keep K23 (ninS (Ne.symm ne_oh1) nin0)
  replace HW2 := HW2.keep K23 (ninS (Ne.symm (Nat.ne_of_lt lt_b19_b21)) nin0)
  replace A_ra2 := A_ra2.keep K23 (ninS (Ne.symm (Nat.ne_of_lt lt_b19_ra2)) nin0)
  replace A_ha2 := A_ha2.keep K23 (ninS (Ne.symm (Nat.ne_of_lt lt_b19_ha2)) nin0)
  replace hn := Nat.le_trans hn K23.1
  replace HW1 := HW1n
  show own_G p e below s _ _ _ T23 (mkF m 159 #[jv d, .second, iv sz, jv ov, .second, iv sel, iv na, iv nb, iv tt, rv b1, rv b2, rv b19, rv b21, .unset, .unset, .unset, .unset, .unset] [(.ref b19)])
  refine own_gs 160 [] (fun t' k => XS.pop X23.here hx rfl (hb hby at_159) rfl rfl k) ?_
  refine own_gs 162 [(.ref b19)] (fun t' k => XS.aload X23.here hx rfl (hb hby at_160) rfl rfl  k) ?_
  refine own_gs 164 [(.ref b1), (.ref b19)] (fun t' k => XS.aload X23.here hx rfl (hb hby at_162) rfl rfl  k) ?_
  refine own_gs 166 [(.int na), (.ref b1), (.ref b19)] (fun t' k => XS.iload X23.here hx rfl (hb hby at_164) rfl  k) ?_
  refine X23.callV hx hZ (y := (⟨"com/example/vocab_scan/vocabscan/WordEdges", "walk", "([BI)V"⟩ : MethodName)) (C := "com/example/vocab_scan/vocabscan/WordEdges") hown (hw _ (List.mem_of_getElem? (i := 32) rfl)) (hw _ (List.mem_of_getElem? (i := 33) rfl)) (hw _ (List.mem_of_getElem? (i := 35) rfl)) (hw _ (List.mem_of_getElem? (i := 34) rfl)) (hw _ (List.mem_of_getElem? (i := 9) rfl)) (hw _ (List.mem_of_getElem? (i := 36) rfl)) (by decide) rfl HW1.1 [(.ref b1), (.int na)] [] (own_w0C l Z a0 hw [] T23.heap h0.size hn b19 ra1 ha1 b1 (.ref b21) 0 0 n1 4 na _ _ rfl hn1 (by omega) hle1 g_b19 g_ra1 ne_or1 (Ne.symm (Nat.ne_of_lt lt_b1_b19)) (Ne.symm (Nat.ne_of_lt lt_b1_ra1)) HW1 A_ra1 A_b1 (by omega)) 0 (by decide) (by decide) (Nat.le_of_eq rfl) (by decide) (by decide) (by rw [hml]; rfl) (lenOf own_pd5 rfl) rfl (hb hby at_166) ?_
  rintro T24 _ X24 ⟨rfl, hn24, K24, rc1, hrc1, HW1n, A_ra1n⟩
  replace A_b1 := A_b1.keep K24 (ninS (Nat.ne_of_lt lt_b1_b19) (ninS (Nat.ne_of_lt lt_b1_ra1) nin0))
  replace A_b2 := A_b2.keep K24 (ninS (Nat.ne_of_lt lt_b2_b19) (ninS (Nat.ne_of_lt lt_b2_ra1) nin0))
  replace A_ha1 := A_ha1.keep K24 (ninS (Ne.symm ne_oh1) (ninS (Ne.symm ne_r1) nin0))
  replace HW2 := HW2.keep K24 (ninS (Ne.symm (Nat.ne_of_lt lt_b19_b21)) (ninS (Ne.symm (Nat.ne_of_lt lt_ra1_b21)) nin0))
  replace A_ra2 := A_ra2.keep K24 (ninS (Ne.symm (Nat.ne_of_lt lt_b19_ra2)) (ninS (Ne.symm (Nat.ne_of_lt lt_ra1_ra2)) nin0))
  replace A_ha2 := A_ha2.keep K24 (ninS (Ne.symm (Nat.ne_of_lt lt_b19_ha2)) (ninS (Ne.symm (Nat.ne_of_lt lt_ra1_ha2)) nin0))
  replace hn := Nat.le_trans hn K24.1
  replace HW1 := HW1n
  replace A_ra1 := A_ra1n
  show own_G p e below s _ _ _ T24 (mkF m 169 #[jv d, .second, iv sz, jv ov, .second, iv sel, iv na, iv nb, iv tt, rv b1, rv b2, rv b19, rv b21, .unset, .unset, .unset, .unset, .unset] [])
  refine own_gs 171 [(.ref b19)] (fun t' k => XS.aload X24.here hx rfl (hb hby at_169) rfl rfl  k) ?_
  refine own_gs 173 [(.ref b2), (.ref b19)] (fun t' k => XS.aload X24.here hx rfl (hb hby at_171) rfl rfl  k) ?_
  refine own_gs 175 [(.int nb), (.ref b2), (.ref b19)] (fun t' k => XS.iload X24.here hx rfl (hb hby at_173) rfl  k) ?_
  refine X24.callV hx hZ (y := (⟨"com/example/vocab_scan/vocabscan/WordEdges", "walk", "([BI)V"⟩ : MethodName)) (C := "com/example/vocab_scan/vocabscan/WordEdges") hown (hw _ (List.mem_of_getElem? (i := 32) rfl)) (hw _ (List.mem_of_getElem? (i := 33) rfl)) (hw _ (List.mem_of_getElem? (i := 35) rfl)) (hw _ (List.mem_of_getElem? (i := 34) rfl)) (hw _ (List.mem_of_getElem? (i := 9) rfl)) (hw _ (List.mem_of_getElem? (i := 36) rfl)) (by decide) rfl HW1.1 [(.ref b2), (.int nb)] [] (own_w1C l Z a0 hw [] T24.heap h0.size hn b19 ra1 ha1 b2 b21 ra2 ha2 .null _ _ rc1 n1 n2 4 nb _ _ (by rw [hrc1]; omega) hn2 (by omega) hle2 g_b19 g_ra1 ne_or1 (Ne.symm (Nat.ne_of_lt lt_b2_b19)) (Ne.symm (Nat.ne_of_lt lt_b2_ra1)) HW1 A_ra1 A_b2 g_ha1 g_b21 g_ra2 ne_oh1 (Nat.ne_of_lt lt_b19_b21) (Nat.ne_of_lt lt_b19_ra2) ne_r1 (Nat.ne_of_lt lt_ra1_b21) (Nat.ne_of_lt lt_ra1_ra2) (Nat.ne_of_lt lt_ha1_b21) (Nat.ne_of_lt lt_ha1_ra2) ne_or2 A_ha1 HW2 A_ra2) 0 (by decide) (by decide) (Nat.le_of_eq rfl) (by decide) (by decide) (by rw [hml]; rfl) (lenOf own_pd5 rfl) rfl (hb hby at_175) ?_
  rintro T25 _ X25 ⟨rfl, hn25, rc2, hd2, hrc2, HWe, A_fin⟩
  replace hn := hn25
  have hF : ∀ k, k < n1 + n2 → (fun x => if n1 ≤ x ∧ x < n1 + n2 then (fun k => own_bt d (n1 + k)) (x - n1) else (fun x => if 0 ≤ x ∧ x < 0 + n1 then (fun k => own_bt d k) (x - 0) else (fun _ => 0) x) x) k = own_bt d k := fun k hk => by
    dsimp only
    by_cases q1 : n1 ≤ k
    · rw [if_pos ⟨q1, hk⟩]; congr 1; omega
    · rw [if_neg (by omega), if_pos ⟨by omega, by omega⟩]; rfl
  show own_G p e below s _ _ _ T25 (mkF m 178 #[jv d, .second, iv sz, jv ov, .second, iv sel, iv na, iv nb, iv tt, rv b1, rv b2, rv b19, rv b21, .unset, .unset, .unset, .unset, .unset] [])
  have JO : ∀ (off : Int64), (True) → own_G p e below s (own_Q h0.size (fun v h => v = some (.int 1))) room_1.cells room_1.slots T25 (mkF m 198 #[jv d, .second, iv sz, jv ov, .second, iv sel, iv na, iv nb, iv tt, rv b1, rv b2, rv b19, rv b21, .unset, .unset, .unset, .unset, .unset] [(.long off)]) := by
    intro off hJO
    refine own_go (mkF m 200 #[jv d, .second, iv sz, jv ov, .second, iv sel, iv na, iv nb, iv tt, rv b1, rv b2, rv b19, rv b21, jv off, .second, .unset, .unset, .unset] []) (fun t' k => XS.lstore X25.here hx rfl (hb hby at_198) rfl rfl k) ?_
    refine own_gs 203 [(.long (-1 : Int64))] (fun t' k => X25.ldc2Long hx hown (mvT hZ (hw _ (List.mem_of_getElem? (i := 66) rfl))) (g := (mkF m 200 #[jv d, .second, iv sz, jv ov, .second, iv sel, iv na, iv nb, iv tt, rv b1, rv b2, rv b19, rv b21, jv off, .second, .unset, .unset, .unset] [])) rfl (hb hby at_200) _ k) ?_
    refine own_go (mkF m 205 #[jv d, .second, iv sz, jv ov, .second, iv sel, iv na, iv nb, iv tt, rv b1, rv b2, rv b19, rv b21, jv off, .second, jv (-1 : Int64), .second, .unset] []) (fun t' k => XS.lstore X25.here hx rfl (hb hby at_203) rfl rfl k) ?_
    refine own_gs 207 [(.long off)] (fun t' k => XS.lload X25.here hx rfl (hb hby at_205) rfl  k) ?_
    refine own_gs 210 [(.long (4 : Int64)), (.long off)] (fun t' k => X25.ldc2Long hx hown (mvT hZ (hw _ (List.mem_of_getElem? (i := 67) rfl))) (g := (mkF m 207 #[jv d, .second, iv sz, jv ov, .second, iv sel, iv na, iv nb, iv tt, rv b1, rv b2, rv b19, rv b21, jv off, .second, jv (-1 : Int64), .second, .unset] [(.long off)])) rfl (hb hby at_207) _ k) ?_
    refine own_gs 211 [(.int (lcmpW off (4 : Int64)))] (fun t' k => XS.lcmp X25.here hx rfl (hb hby at_210) rfl k) ?_
    by_cases hc211 : off < (4 : Int64)
    · skip
      refine own_gs 274 [] (fun t' k => XS.ifYes X25.here hx rfl (pc0 := 211) (pc' := 274) rfl (hb hby at_211) rfl ((if0 _ _).trans (tlt ((lw_lt off (4 : Int64)).mpr hc211)).1) (by decide) (by decide) k) ?_
      refine own_gs 276 [(.ref b19)] (fun t' k => XS.aload X25.here hx rfl (hb hby at_274) rfl rfl  k) ?_
      refine own_gs 278 [(.long off), (.ref b19)] (fun t' k => XS.lload X25.here hx rfl (hb hby at_276) rfl  k) ?_
      refine X25.callV hx hZ (y := (⟨"com/example/vocab_scan/vocabscan/WordEdges", "bytesBefore", "(J)J"⟩ : MethodName)) (C := "com/example/vocab_scan/vocabscan/WordEdges") hown (hw _ (List.mem_of_getElem? (i := 68) rfl)) (hw _ (List.mem_of_getElem? (i := 69) rfl)) (hw _ (List.mem_of_getElem? (i := 71) rfl)) (hw _ (List.mem_of_getElem? (i := 70) rfl)) (hw _ (List.mem_of_getElem? (i := 9) rfl)) (hw _ (List.mem_of_getElem? (i := 72) rfl)) (by decide) rfl HWe.1 [(.long off)] [] (own_bbC l Z a0 hw [] T25.heap h0.size hn b19 ra1 _ off rc2 HWe.2.1 HWe.2.2.2.2.2.1 A_fin) 0 (by decide) (by decide) (Nat.le_of_eq rfl) (by decide) (by decide) (by rw [hml]; rfl) (lenOf own_pd9 rfl) rfl (hb hby at_278) ?_
      rintro T26 _ X26 ⟨rfl, e26⟩
      show own_G p e below s _ _ _ T26 (mkF m 281 #[jv d, .second, iv sz, jv ov, .second, iv sel, iv na, iv nb, iv tt, rv b1, rv b2, rv b19, rv b21, jv off, .second, jv (-1 : Int64), .second, .unset] [(.long (own_bb off rc2 (fun x => if n1 ≤ x ∧ x < n1 + n2 then (fun k => own_bt d (n1 + k)) (x - n1) else (fun x => if 0 ≤ x ∧ x < 0 + n1 then (fun k => own_bt d k) (x - 0) else (fun _ => 0) x) x)))])
      refine own_gs 283 [(.long (-1 : Int64)), (.long (own_bb off rc2 (fun x => if n1 ≤ x ∧ x < n1 + n2 then (fun k => own_bt d (n1 + k)) (x - n1) else (fun x => if 0 ≤ x ∧ x < 0 + n1 then (fun k => own_bt d k) (x - 0) else (fun _ => 0) x) x)))] (fun t' k => XS.lload X26.here hx rfl (hb hby at_281) rfl  k) ?_
      refine own_gs 284 [(.int (lcmpW (own_bb off rc2 (fun x => if n1 ≤ x ∧ x < n1 + n2 then (fun k => own_bt d (n1 + k)) (x - n1) else (fun x => if 0 ≤ x ∧ x < 0 + n1 then (fun k => own_bt d k) (x - 0) else (fun _ => 0) x) x)) (-1 : Int64)))] (fun t' k => XS.lcmp X26.here hx rfl (hb hby at_283) rfl k) ?_
      refine own_gs 287 [] (fun t' k => XS.ifNo X26.here hx rfl (hb hby at_284) rfl ((if0 _ _).trans (teq ((lw_eq (own_bb off rc2 (fun x => if n1 ≤ x ∧ x < n1 + n2 then (fun k => own_bt d (n1 + k)) (x - n1) else (fun x => if 0 ≤ x ∧ x < 0 + n1 then (fun k => own_bt d k) (x - 0) else (fun _ => 0) x) x)) (-1 : Int64)).mpr (show own_bb off rc2 _ = (-1 : Int64) from if_pos hc211))).2) k) ?_
      refine own_gs 288 [(.int (1 : Int32))] (fun t' k => XS.iconst X26.here hx rfl (hb hby at_287) k) ?_
      refine own_gs 292 [(.int (1 : Int32))] (fun t' k => XS.goto X26.here hx rfl (pc0 := 288) (pc' := 292) rfl (hb hby at_288) (by decide) (by decide) k) ?_
      refine X26.retZ hx hlk hret (hb hby at_292) ?_ (by decide) (by decide)
      exact rfl
    · skip
      refine own_gs 214 [] (fun t' k => XS.ifNo X25.here hx rfl (hb hby at_211) rfl ((if0 _ _).trans (flt (fun q' => hc211 ((lw_lt off (4 : Int64)).mp q'))).1) k) ?_
      refine own_gs 216 [(.long off)] (fun t' k => XS.lload X25.here hx rfl (hb hby at_214) rfl  k) ?_
      refine own_gs 218 [(.int tt), (.long off)] (fun t' k => XS.iload X25.here hx rfl (hb hby at_216) rfl  k) ?_
      refine own_gs 219 [(.long (tt.toInt64)), (.long off)] (fun t' k => XS.i2l X25.here hx rfl (hb hby at_218) rfl k) ?_
      refine own_gs 220 [(.int (lcmpW off (tt.toInt64)))] (fun t' k => XS.lcmp X25.here hx rfl (hb hby at_219) rfl k) ?_
      by_cases hc220 : (tt.toInt64) < off
      · skip
        refine own_gs 274 [] (fun t' k => XS.ifYes X25.here hx rfl (pc0 := 220) (pc' := 274) rfl (hb hby at_220) rfl ((if0 _ _).trans (tlt ((lw_gt off (tt.toInt64)).mpr hc220)).2.2.1) (by decide) (by decide) k) ?_
        refine own_gs 276 [(.ref b19)] (fun t' k => XS.aload X25.here hx rfl (hb hby at_274) rfl rfl  k) ?_
        refine own_gs 278 [(.long off), (.ref b19)] (fun t' k => XS.lload X25.here hx rfl (hb hby at_276) rfl  k) ?_
        refine X25.callV hx hZ (y := (⟨"com/example/vocab_scan/vocabscan/WordEdges", "bytesBefore", "(J)J"⟩ : MethodName)) (C := "com/example/vocab_scan/vocabscan/WordEdges") hown (hw _ (List.mem_of_getElem? (i := 68) rfl)) (hw _ (List.mem_of_getElem? (i := 69) rfl)) (hw _ (List.mem_of_getElem? (i := 71) rfl)) (hw _ (List.mem_of_getElem? (i := 70) rfl)) (hw _ (List.mem_of_getElem? (i := 9) rfl)) (hw _ (List.mem_of_getElem? (i := 72) rfl)) (by decide) rfl HWe.1 [(.long off)] [] (own_bbC l Z a0 hw [] T25.heap h0.size hn b19 ra1 _ off rc2 HWe.2.1 HWe.2.2.2.2.2.1 A_fin) 0 (by decide) (by decide) (Nat.le_of_eq rfl) (by decide) (by decide) (by rw [hml]; rfl) (lenOf own_pd9 rfl) rfl (hb hby at_278) ?_
        rintro T27 _ X27 ⟨rfl, e27⟩
        show own_G p e below s _ _ _ T27 (mkF m 281 #[jv d, .second, iv sz, jv ov, .second, iv sel, iv na, iv nb, iv tt, rv b1, rv b2, rv b19, rv b21, jv off, .second, jv (-1 : Int64), .second, .unset] [(.long (own_bb off rc2 (fun x => if n1 ≤ x ∧ x < n1 + n2 then (fun k => own_bt d (n1 + k)) (x - n1) else (fun x => if 0 ≤ x ∧ x < 0 + n1 then (fun k => own_bt d k) (x - 0) else (fun _ => 0) x) x)))])
        refine own_gs 283 [(.long (-1 : Int64)), (.long (own_bb off rc2 (fun x => if n1 ≤ x ∧ x < n1 + n2 then (fun k => own_bt d (n1 + k)) (x - n1) else (fun x => if 0 ≤ x ∧ x < 0 + n1 then (fun k => own_bt d k) (x - 0) else (fun _ => 0) x) x)))] (fun t' k => XS.lload X27.here hx rfl (hb hby at_281) rfl  k) ?_
        refine own_gs 284 [(.int (lcmpW (own_bb off rc2 (fun x => if n1 ≤ x ∧ x < n1 + n2 then (fun k => own_bt d (n1 + k)) (x - n1) else (fun x => if 0 ≤ x ∧ x < 0 + n1 then (fun k => own_bt d k) (x - 0) else (fun _ => 0) x) x)) (-1 : Int64)))] (fun t' k => XS.lcmp X27.here hx rfl (hb hby at_283) rfl k) ?_
        refine own_gs 287 [] (fun t' k => XS.ifNo X27.here hx rfl (hb hby at_284) rfl ((if0 _ _).trans (teq ((lw_eq (own_bb off rc2 (fun x => if n1 ≤ x ∧ x < n1 + n2 then (fun k => own_bt d (n1 + k)) (x - n1) else (fun x => if 0 ≤ x ∧ x < 0 + n1 then (fun k => own_bt d k) (x - 0) else (fun _ => 0) x) x)) (-1 : Int64)).mpr (show own_bb off rc2 _ = (-1 : Int64) from (if_neg hc211).trans (if_pos ((show tt.toInt64 = rc2 from Int64.toInt_inj.mp (by rw [Int32.toInt_toInt64, htt, hrc2])) ▸ hc220))))).2) k) ?_
        refine own_gs 288 [(.int (1 : Int32))] (fun t' k => XS.iconst X27.here hx rfl (hb hby at_287) k) ?_
        refine own_gs 292 [(.int (1 : Int32))] (fun t' k => XS.goto X27.here hx rfl (pc0 := 288) (pc' := 292) rfl (hb hby at_288) (by decide) (by decide) k) ?_
        refine X27.retZ hx hlk hret (hb hby at_292) ?_ (by decide) (by decide)
        exact rfl
      · skip
        refine own_gs 223 [] (fun t' k => XS.ifNo X25.here hx rfl (hb hby at_220) rfl ((if0 _ _).trans (flt (fun q' => hc220 ((lw_gt off (tt.toInt64)).mp q'))).2.2.1) k) ?_
        refine own_gs 225 [(.long off)] (fun t' k => XS.lload X25.here hx rfl (hb hby at_223) rfl  k) ?_
        refine own_gs 226 [(.int (off.toInt32))] (fun t' k => XS.l2i X25.here hx rfl (hb hby at_225) rfl k) ?_
        refine own_go (mkF m 228 #[jv d, .second, iv sz, jv ov, .second, iv sel, iv na, iv nb, iv tt, rv b1, rv b2, rv b19, rv b21, jv off, .second, jv (-1 : Int64), .second, iv (off.toInt32)] []) (fun t' k => XS.istore X25.here hx rfl (hb hby at_226) rfl rfl k) ?_
        refine own_gs 229 [(.long d)] (fun t' k => XS.lloadN X25.here hx rfl (hb hby at_228) rfl  k) ?_
        refine own_gs 231 [(.int (off.toInt32)), (.long d)] (fun t' k => XS.iload X25.here hx rfl (hb hby at_229) rfl  k) ?_
        refine own_gs 232 [(.int (4 : Int32)), (.int (off.toInt32)), (.long d)] (fun t' k => XS.iconst X25.here hx rfl (hb hby at_231) k) ?_
        refine own_gs 233 [(.int ((off.toInt32) - (4 : Int32))), (.long d)] (fun t' k => XS.isub X25.here hx rfl (hb hby at_232) rfl k) ?_
        refine X25.callP hx hZ (y := (⟨"com/example/vocab_scan/vocabscan/WordEdgesBytesBeforePinLaw", "byteOf", "(JI)J"⟩ : MethodName)) (fr := 0) (lo := 0) (r := (.long (own_by d ((off.toInt32) - (4 : Int32))))) hown (hw _ (List.mem_of_getElem? (i := 2) rfl)) (hw _ (List.mem_of_getElem? (i := 3) rfl)) (hw _ (List.mem_of_getElem? (i := 4) rfl)) (hw _ (List.mem_of_getElem? (i := 5) rfl)) (by decide) rfl [(.long d), (.int ((off.toInt32) - (4 : Int32)))] [] (own_byC l Z a0 hw [] T25.heap d ((off.toInt32) - (4 : Int32))) 0 (by decide) (by decide) (Nat.le_of_eq rfl) (by decide) (by decide) (by rw [hml]; rfl) (lenOf own_pd6 rfl) rfl (hb hby at_233) ?_
        intro T28 X28 e28
        refine own_gs 238 [(.int (24 : Int32)), (.long (own_by d ((off.toInt32) - (4 : Int32))))] (fun t' k => XS.bipush X28.here hx rfl (hb hby at_236) k) ?_
        refine own_gs 239 [(.long ((own_by d ((off.toInt32) - (4 : Int32))) <<< ((24 : Int32) &&& 0x3f).toInt64))] (fun t' k => XS.lshl X28.here hx rfl (hb hby at_238) rfl k) ?_
        refine own_gs 240 [(.long d), (.long ((own_by d ((off.toInt32) - (4 : Int32))) <<< ((24 : Int32) &&& 0x3f).toInt64))] (fun t' k => XS.lloadN X28.here hx rfl (hb hby at_239) rfl  k) ?_
        refine own_gs 242 [(.int (off.toInt32)), (.long d), (.long ((own_by d ((off.toInt32) - (4 : Int32))) <<< ((24 : Int32) &&& 0x3f).toInt64))] (fun t' k => XS.iload X28.here hx rfl (hb hby at_240) rfl  k) ?_
        refine own_gs 243 [(.int (3 : Int32)), (.int (off.toInt32)), (.long d), (.long ((own_by d ((off.toInt32) - (4 : Int32))) <<< ((24 : Int32) &&& 0x3f).toInt64))] (fun t' k => XS.iconst X28.here hx rfl (hb hby at_242) k) ?_
        refine own_gs 244 [(.int ((off.toInt32) - (3 : Int32))), (.long d), (.long ((own_by d ((off.toInt32) - (4 : Int32))) <<< ((24 : Int32) &&& 0x3f).toInt64))] (fun t' k => XS.isub X28.here hx rfl (hb hby at_243) rfl k) ?_
        refine X28.callP hx hZ (y := (⟨"com/example/vocab_scan/vocabscan/WordEdgesBytesBeforePinLaw", "byteOf", "(JI)J"⟩ : MethodName)) (fr := 0) (lo := 0) (r := (.long (own_by d ((off.toInt32) - (3 : Int32))))) hown (hw _ (List.mem_of_getElem? (i := 2) rfl)) (hw _ (List.mem_of_getElem? (i := 3) rfl)) (hw _ (List.mem_of_getElem? (i := 4) rfl)) (hw _ (List.mem_of_getElem? (i := 5) rfl)) (by decide) e28 [(.long d), (.int ((off.toInt32) - (3 : Int32)))] [(.long ((own_by d ((off.toInt32) - (4 : Int32))) <<< ((24 : Int32) &&& 0x3f).toInt64))] (own_byC l Z a0 hw [] T25.heap d ((off.toInt32) - (3 : Int32))) 2 (by decide) (by decide) (Nat.le_of_eq rfl) (by decide) (by decide) (by rw [hml]; rfl) (lenOf own_pd6 rfl) rfl (hb hby at_244) ?_
        intro T29 X29 e29
        refine own_gs 249 [(.int (16 : Int32)), (.long (own_by d ((off.toInt32) - (3 : Int32)))), (.long ((own_by d ((off.toInt32) - (4 : Int32))) <<< ((24 : Int32) &&& 0x3f).toInt64))] (fun t' k => XS.bipush X29.here hx rfl (hb hby at_247) k) ?_
        refine own_gs 250 [(.long ((own_by d ((off.toInt32) - (3 : Int32))) <<< ((16 : Int32) &&& 0x3f).toInt64)), (.long ((own_by d ((off.toInt32) - (4 : Int32))) <<< ((24 : Int32) &&& 0x3f).toInt64))] (fun t' k => XS.lshl X29.here hx rfl (hb hby at_249) rfl k) ?_
        refine own_gs 251 [(.long (((own_by d ((off.toInt32) - (4 : Int32))) <<< ((24 : Int32) &&& 0x3f).toInt64) ||| ((own_by d ((off.toInt32) - (3 : Int32))) <<< ((16 : Int32) &&& 0x3f).toInt64)))] (fun t' k => XS.lor X29.here hx rfl (hb hby at_250) rfl k) ?_
        refine own_gs 252 [(.long d), (.long (((own_by d ((off.toInt32) - (4 : Int32))) <<< ((24 : Int32) &&& 0x3f).toInt64) ||| ((own_by d ((off.toInt32) - (3 : Int32))) <<< ((16 : Int32) &&& 0x3f).toInt64)))] (fun t' k => XS.lloadN X29.here hx rfl (hb hby at_251) rfl  k) ?_
        refine own_gs 254 [(.int (off.toInt32)), (.long d), (.long (((own_by d ((off.toInt32) - (4 : Int32))) <<< ((24 : Int32) &&& 0x3f).toInt64) ||| ((own_by d ((off.toInt32) - (3 : Int32))) <<< ((16 : Int32) &&& 0x3f).toInt64)))] (fun t' k => XS.iload X29.here hx rfl (hb hby at_252) rfl  k) ?_
        refine own_gs 255 [(.int (2 : Int32)), (.int (off.toInt32)), (.long d), (.long (((own_by d ((off.toInt32) - (4 : Int32))) <<< ((24 : Int32) &&& 0x3f).toInt64) ||| ((own_by d ((off.toInt32) - (3 : Int32))) <<< ((16 : Int32) &&& 0x3f).toInt64)))] (fun t' k => XS.iconst X29.here hx rfl (hb hby at_254) k) ?_
        refine own_gs 256 [(.int ((off.toInt32) - (2 : Int32))), (.long d), (.long (((own_by d ((off.toInt32) - (4 : Int32))) <<< ((24 : Int32) &&& 0x3f).toInt64) ||| ((own_by d ((off.toInt32) - (3 : Int32))) <<< ((16 : Int32) &&& 0x3f).toInt64)))] (fun t' k => XS.isub X29.here hx rfl (hb hby at_255) rfl k) ?_
        refine X29.callP hx hZ (y := (⟨"com/example/vocab_scan/vocabscan/WordEdgesBytesBeforePinLaw", "byteOf", "(JI)J"⟩ : MethodName)) (fr := 0) (lo := 0) (r := (.long (own_by d ((off.toInt32) - (2 : Int32))))) hown (hw _ (List.mem_of_getElem? (i := 2) rfl)) (hw _ (List.mem_of_getElem? (i := 3) rfl)) (hw _ (List.mem_of_getElem? (i := 4) rfl)) (hw _ (List.mem_of_getElem? (i := 5) rfl)) (by decide) e29 [(.long d), (.int ((off.toInt32) - (2 : Int32)))] [(.long (((own_by d ((off.toInt32) - (4 : Int32))) <<< ((24 : Int32) &&& 0x3f).toInt64) ||| ((own_by d ((off.toInt32) - (3 : Int32))) <<< ((16 : Int32) &&& 0x3f).toInt64)))] (own_byC l Z a0 hw [] T25.heap d ((off.toInt32) - (2 : Int32))) 2 (by decide) (by decide) (Nat.le_of_eq rfl) (by decide) (by decide) (by rw [hml]; rfl) (lenOf own_pd6 rfl) rfl (hb hby at_256) ?_
        intro T30 X30 e30
        refine own_gs 261 [(.int (8 : Int32)), (.long (own_by d ((off.toInt32) - (2 : Int32)))), (.long (((own_by d ((off.toInt32) - (4 : Int32))) <<< ((24 : Int32) &&& 0x3f).toInt64) ||| ((own_by d ((off.toInt32) - (3 : Int32))) <<< ((16 : Int32) &&& 0x3f).toInt64)))] (fun t' k => XS.bipush X30.here hx rfl (hb hby at_259) k) ?_
        refine own_gs 262 [(.long ((own_by d ((off.toInt32) - (2 : Int32))) <<< ((8 : Int32) &&& 0x3f).toInt64)), (.long (((own_by d ((off.toInt32) - (4 : Int32))) <<< ((24 : Int32) &&& 0x3f).toInt64) ||| ((own_by d ((off.toInt32) - (3 : Int32))) <<< ((16 : Int32) &&& 0x3f).toInt64)))] (fun t' k => XS.lshl X30.here hx rfl (hb hby at_261) rfl k) ?_
        refine own_gs 263 [(.long ((((own_by d ((off.toInt32) - (4 : Int32))) <<< ((24 : Int32) &&& 0x3f).toInt64) ||| ((own_by d ((off.toInt32) - (3 : Int32))) <<< ((16 : Int32) &&& 0x3f).toInt64)) ||| ((own_by d ((off.toInt32) - (2 : Int32))) <<< ((8 : Int32) &&& 0x3f).toInt64)))] (fun t' k => XS.lor X30.here hx rfl (hb hby at_262) rfl k) ?_
        refine own_gs 264 [(.long d), (.long ((((own_by d ((off.toInt32) - (4 : Int32))) <<< ((24 : Int32) &&& 0x3f).toInt64) ||| ((own_by d ((off.toInt32) - (3 : Int32))) <<< ((16 : Int32) &&& 0x3f).toInt64)) ||| ((own_by d ((off.toInt32) - (2 : Int32))) <<< ((8 : Int32) &&& 0x3f).toInt64)))] (fun t' k => XS.lloadN X30.here hx rfl (hb hby at_263) rfl  k) ?_
        refine own_gs 266 [(.int (off.toInt32)), (.long d), (.long ((((own_by d ((off.toInt32) - (4 : Int32))) <<< ((24 : Int32) &&& 0x3f).toInt64) ||| ((own_by d ((off.toInt32) - (3 : Int32))) <<< ((16 : Int32) &&& 0x3f).toInt64)) ||| ((own_by d ((off.toInt32) - (2 : Int32))) <<< ((8 : Int32) &&& 0x3f).toInt64)))] (fun t' k => XS.iload X30.here hx rfl (hb hby at_264) rfl  k) ?_
        refine own_gs 267 [(.int (1 : Int32)), (.int (off.toInt32)), (.long d), (.long ((((own_by d ((off.toInt32) - (4 : Int32))) <<< ((24 : Int32) &&& 0x3f).toInt64) ||| ((own_by d ((off.toInt32) - (3 : Int32))) <<< ((16 : Int32) &&& 0x3f).toInt64)) ||| ((own_by d ((off.toInt32) - (2 : Int32))) <<< ((8 : Int32) &&& 0x3f).toInt64)))] (fun t' k => XS.iconst X30.here hx rfl (hb hby at_266) k) ?_
        refine own_gs 268 [(.int ((off.toInt32) - (1 : Int32))), (.long d), (.long ((((own_by d ((off.toInt32) - (4 : Int32))) <<< ((24 : Int32) &&& 0x3f).toInt64) ||| ((own_by d ((off.toInt32) - (3 : Int32))) <<< ((16 : Int32) &&& 0x3f).toInt64)) ||| ((own_by d ((off.toInt32) - (2 : Int32))) <<< ((8 : Int32) &&& 0x3f).toInt64)))] (fun t' k => XS.isub X30.here hx rfl (hb hby at_267) rfl k) ?_
        refine X30.callP hx hZ (y := (⟨"com/example/vocab_scan/vocabscan/WordEdgesBytesBeforePinLaw", "byteOf", "(JI)J"⟩ : MethodName)) (fr := 0) (lo := 0) (r := (.long (own_by d ((off.toInt32) - (1 : Int32))))) hown (hw _ (List.mem_of_getElem? (i := 2) rfl)) (hw _ (List.mem_of_getElem? (i := 3) rfl)) (hw _ (List.mem_of_getElem? (i := 4) rfl)) (hw _ (List.mem_of_getElem? (i := 5) rfl)) (by decide) e30 [(.long d), (.int ((off.toInt32) - (1 : Int32)))] [(.long ((((own_by d ((off.toInt32) - (4 : Int32))) <<< ((24 : Int32) &&& 0x3f).toInt64) ||| ((own_by d ((off.toInt32) - (3 : Int32))) <<< ((16 : Int32) &&& 0x3f).toInt64)) ||| ((own_by d ((off.toInt32) - (2 : Int32))) <<< ((8 : Int32) &&& 0x3f).toInt64)))] (own_byC l Z a0 hw [] T25.heap d ((off.toInt32) - (1 : Int32))) 2 (by decide) (by decide) (Nat.le_of_eq rfl) (by decide) (by decide) (by rw [hml]; rfl) (lenOf own_pd6 rfl) rfl (hb hby at_268) ?_
        intro T31 X31 e31
        refine own_gs 272 [(.long (((((own_by d ((off.toInt32) - (4 : Int32))) <<< ((24 : Int32) &&& 0x3f).toInt64) ||| ((own_by d ((off.toInt32) - (3 : Int32))) <<< ((16 : Int32) &&& 0x3f).toInt64)) ||| ((own_by d ((off.toInt32) - (2 : Int32))) <<< ((8 : Int32) &&& 0x3f).toInt64)) ||| (own_by d ((off.toInt32) - (1 : Int32)))))] (fun t' k => XS.lor X31.here hx rfl (hb hby at_271) rfl k) ?_
        refine own_go (mkF m 274 #[jv d, .second, iv sz, jv ov, .second, iv sel, iv na, iv nb, iv tt, rv b1, rv b2, rv b19, rv b21, jv off, .second, jv (((((own_by d ((off.toInt32) - (4 : Int32))) <<< ((24 : Int32) &&& 0x3f).toInt64) ||| ((own_by d ((off.toInt32) - (3 : Int32))) <<< ((16 : Int32) &&& 0x3f).toInt64)) ||| ((own_by d ((off.toInt32) - (2 : Int32))) <<< ((8 : Int32) &&& 0x3f).toInt64)) ||| (own_by d ((off.toInt32) - (1 : Int32)))), .second, iv (off.toInt32)] []) (fun t' k => XS.lstore X31.here hx rfl (hb hby at_272) rfl rfl k) ?_
        refine own_gs 276 [(.ref b19)] (fun t' k => XS.aload X31.here hx rfl (hb hby at_274) rfl rfl  k) ?_
        refine own_gs 278 [(.long off), (.ref b19)] (fun t' k => XS.lload X31.here hx rfl (hb hby at_276) rfl  k) ?_
        refine X31.callV hx hZ (y := (⟨"com/example/vocab_scan/vocabscan/WordEdges", "bytesBefore", "(J)J"⟩ : MethodName)) (C := "com/example/vocab_scan/vocabscan/WordEdges") hown (hw _ (List.mem_of_getElem? (i := 68) rfl)) (hw _ (List.mem_of_getElem? (i := 69) rfl)) (hw _ (List.mem_of_getElem? (i := 71) rfl)) (hw _ (List.mem_of_getElem? (i := 70) rfl)) (hw _ (List.mem_of_getElem? (i := 9) rfl)) (hw _ (List.mem_of_getElem? (i := 72) rfl)) (by decide) e31 HWe.1 [(.long off)] [] (own_bbC l Z a0 hw [] T25.heap h0.size hn b19 ra1 _ off rc2 HWe.2.1 HWe.2.2.2.2.2.1 A_fin) 0 (by decide) (by decide) (Nat.le_of_eq rfl) (by decide) (by decide) (by rw [hml]; rfl) (lenOf own_pd9 rfl) rfl (hb hby at_278) ?_
        rintro T32 _ X32 ⟨rfl, e32⟩
        show own_G p e below s _ _ _ T32 (mkF m 281 #[jv d, .second, iv sz, jv ov, .second, iv sel, iv na, iv nb, iv tt, rv b1, rv b2, rv b19, rv b21, jv off, .second, jv (((((own_by d ((off.toInt32) - (4 : Int32))) <<< ((24 : Int32) &&& 0x3f).toInt64) ||| ((own_by d ((off.toInt32) - (3 : Int32))) <<< ((16 : Int32) &&& 0x3f).toInt64)) ||| ((own_by d ((off.toInt32) - (2 : Int32))) <<< ((8 : Int32) &&& 0x3f).toInt64)) ||| (own_by d ((off.toInt32) - (1 : Int32)))), .second, iv (off.toInt32)] [(.long (own_bb off rc2 (fun x => if n1 ≤ x ∧ x < n1 + n2 then (fun k => own_bt d (n1 + k)) (x - n1) else (fun x => if 0 ≤ x ∧ x < 0 + n1 then (fun k => own_bt d k) (x - 0) else (fun _ => 0) x) x)))])
        refine own_gs 283 [(.long (((((own_by d ((off.toInt32) - (4 : Int32))) <<< ((24 : Int32) &&& 0x3f).toInt64) ||| ((own_by d ((off.toInt32) - (3 : Int32))) <<< ((16 : Int32) &&& 0x3f).toInt64)) ||| ((own_by d ((off.toInt32) - (2 : Int32))) <<< ((8 : Int32) &&& 0x3f).toInt64)) ||| (own_by d ((off.toInt32) - (1 : Int32))))), (.long (own_bb off rc2 (fun x => if n1 ≤ x ∧ x < n1 + n2 then (fun k => own_bt d (n1 + k)) (x - n1) else (fun x => if 0 ≤ x ∧ x < 0 + n1 then (fun k => own_bt d k) (x - 0) else (fun _ => 0) x) x)))] (fun t' k => XS.lload X32.here hx rfl (hb hby at_281) rfl  k) ?_
        refine own_gs 284 [(.int (lcmpW (own_bb off rc2 (fun x => if n1 ≤ x ∧ x < n1 + n2 then (fun k => own_bt d (n1 + k)) (x - n1) else (fun x => if 0 ≤ x ∧ x < 0 + n1 then (fun k => own_bt d k) (x - 0) else (fun _ => 0) x) x)) (((((own_by d ((off.toInt32) - (4 : Int32))) <<< ((24 : Int32) &&& 0x3f).toInt64) ||| ((own_by d ((off.toInt32) - (3 : Int32))) <<< ((16 : Int32) &&& 0x3f).toInt64)) ||| ((own_by d ((off.toInt32) - (2 : Int32))) <<< ((8 : Int32) &&& 0x3f).toInt64)) ||| (own_by d ((off.toInt32) - (1 : Int32))))))] (fun t' k => XS.lcmp X32.here hx rfl (hb hby at_283) rfl k) ?_
        refine own_gs 287 [] (fun t' k => XS.ifNo X32.here hx rfl (hb hby at_284) rfl ((if0 _ _).trans (teq ((lw_eq (own_bb off rc2 (fun x => if n1 ≤ x ∧ x < n1 + n2 then (fun k => own_bt d (n1 + k)) (x - n1) else (fun x => if 0 ≤ x ∧ x < 0 + n1 then (fun k => own_bt d k) (x - 0) else (fun _ => 0) x) x)) (((((own_by d ((off.toInt32) - (4 : Int32))) <<< ((24 : Int32) &&& 0x3f).toInt64) ||| ((own_by d ((off.toInt32) - (3 : Int32))) <<< ((16 : Int32) &&& 0x3f).toInt64)) ||| ((own_by d ((off.toInt32) - (2 : Int32))) <<< ((8 : Int32) &&& 0x3f).toInt64)) ||| (own_by d ((off.toInt32) - (1 : Int32))))).mpr (show own_bb off rc2 _ = own_want d off from own_fin (by omega) hrc2 hF hc211 ((show tt.toInt64 = rc2 from Int64.toInt_inj.mp (by rw [Int32.toInt_toInt64, htt, hrc2])) ▸ hc220)))).2) k) ?_
        refine own_gs 288 [(.int (1 : Int32))] (fun t' k => XS.iconst X32.here hx rfl (hb hby at_287) k) ?_
        refine own_gs 292 [(.int (1 : Int32))] (fun t' k => XS.goto X32.here hx rfl (pc0 := 288) (pc' := 292) rfl (hb hby at_288) (by decide) (by decide) k) ?_
        refine X32.retZ hx hlk hret (hb hby at_292) ?_ (by decide) (by decide)
        exact rfl
  refine own_gs 180 [(.int sel)] (fun t' k => XS.iload X25.here hx rfl (hb hby at_178) rfl  k) ?_
  refine own_gs 181 [(.int (1 : Int32)), (.int sel)] (fun t' k => XS.iconst X25.here hx rfl (hb hby at_180) k) ?_
  refine own_gs 182 [(.int (sel &&& (1 : Int32)))] (fun t' k => XS.iand X25.here hx rfl (hb hby at_181) rfl k) ?_
  by_cases hc182 : (sel &&& (1 : Int32)) = (0 : Int32)
  · skip
    have hc182i := congrArg Int32.toInt hc182
    refine own_gs 185 [] (fun t' k => XS.ifNo X25.here hx rfl (hb hby at_182) rfl ((if0 _ _).trans (teq hc182).2) k) ?_
    refine own_gs 186 [(.long ov)] (fun t' k => XS.lloadN X25.here hx rfl (hb hby at_185) rfl  k) ?_
    refine own_gs 189 [(.long (15 : Int64)), (.long ov)] (fun t' k => X25.ldc2Long hx hown (mvT hZ (hw _ (List.mem_of_getElem? (i := 64) rfl))) (g := (mkF m 186 #[jv d, .second, iv sz, jv ov, .second, iv sel, iv na, iv nb, iv tt, rv b1, rv b2, rv b19, rv b21, .unset, .unset, .unset, .unset, .unset] [(.long ov)])) rfl (hb hby at_186) _ k) ?_
    refine own_gs 190 [(.long (ov &&& (15 : Int64)))] (fun t' k => XS.land X25.here hx rfl (hb hby at_189) rfl k) ?_
    refine own_gs 193 [(.long (3 : Int64)), (.long (ov &&& (15 : Int64)))] (fun t' k => X25.ldc2Long hx hown (mvT hZ (hw _ (List.mem_of_getElem? (i := 65) rfl))) (g := (mkF m 190 #[jv d, .second, iv sz, jv ov, .second, iv sel, iv na, iv nb, iv tt, rv b1, rv b2, rv b19, rv b21, .unset, .unset, .unset, .unset, .unset] [(.long (ov &&& (15 : Int64)))])) rfl (hb hby at_190) _ k) ?_
    refine own_gs 194 [(.long ((ov &&& (15 : Int64)) - (3 : Int64)))] (fun t' k => XS.lsub X25.here hx rfl (hb hby at_193) rfl k) ?_
    refine own_gs 198 [(.long ((ov &&& (15 : Int64)) - (3 : Int64)))] (fun t' k => XS.goto X25.here hx rfl (pc0 := 194) (pc' := 198) rfl (hb hby at_194) (by decide) (by decide) k) ?_
    exact JO (((ov &&& (15 : Int64)) - (3 : Int64))) trivial
  · skip
    have hc182i : ¬ ((sel &&& (1 : Int32)).toInt = (0 : Int32).toInt) := fun q' => hc182 (Int32.toInt_inj.mp q')
    refine own_gs 197 [] (fun t' k => XS.ifYes X25.here hx rfl (pc0 := 182) (pc' := 197) rfl (hb hby at_182) rfl ((if0 _ _).trans (feq hc182).2) (by decide) (by decide) k) ?_
    refine own_gs 198 [(.long ov)] (fun t' k => XS.lloadN X25.here hx rfl (hb hby at_197) rfl  k) ?_
    exact JO (ov) trivial

set_option maxRecDepth 65536 in
set_option maxHeartbeats 40000000 in
theorem comes_1 {Post : Tables → Env → Array Value → State → Outcome → State → Prop} (hpost : ∀ tb e args s v u, (limb_1_1.after args s (.returned v) u = true ∧ limb_1_2.after args s (.returned v) u = true ∧ True) → FrameEnd s (.returned v) u (Jvm.fieldLocs frame_1_writes args s ++ Jvm.arrayLocs frame_1_arrays args s ++ Jvm.staticLocs frame_1_statics s) 32 256 → Post tb e args s (.returned v) u) :
    ArmFor flags0 classFile x code maxLocals ret World_1 tables_1 room_1 Calls_1 rest_1 Pre_1 Post := by
  intro l hfl _ _ p e ha hc hk s m args below hf hA hF happ hP
  obtain ⟨hcalls, hrest, hpre⟩ := hP
  obtain ⟨-, -, -, hnamed, -, -, -, hat⟩ := (Spec.applies_iff hf).mp happ
  obtain ⟨hg, hn⟩ := and_e (Cond.before_iff.mp (show (Jvm.Cond.and given_1 narrow_1).before args s = true from hpre))
  obtain ⟨g1, g2⟩ := and_e hg
  obtain ⟨g3, g4⟩ := and_e g2
  obtain ⟨g5, g6⟩ := and_e g4
  obtain ⟨g7, g8⟩ := and_e g6
  obtain ⟨w0, w1, w2, w3, rfl⟩ : ∃ w0 w1 w2 w3 : Value, args = #[w0, w1, w2, w3] := by
    have hs : args.size = 4 := by simpa [Cond.value, given_1] using g1
    obtain ⟨L⟩ := args
    match L, hs with
    | [w0, w1, w2, w3], _ => exact ⟨w0, w1, w2, w3, rfl⟩
  have hw := fun d (hd : d ∈ tables_1) => atoms_spec (ws := Jvm.Cond.code x code maxLocals ret :: tables_1) hat d (List.mem_cons_of_mem _ hd)
  obtain ⟨i0, ei0⟩ := isL_v g3
  obtain rfl : w0 = (.long i0) := Option.some.inj ei0
  obtain ⟨i1, ei1⟩ := is_v g5
  obtain rfl : w1 = (.int i1) := Option.some.inj ei1
  obtain ⟨i2, ei2⟩ := isL_v g7
  obtain rfl : w2 = (.long i2) := Option.some.inj ei2
  obtain ⟨i3, ei3⟩ := is_v g8
  obtain rfl : w3 = (.int i3) := Option.some.inj ei3
  obtain ⟨n, o, h1, h2, h3, _, L, rfl, ⟨N, rfl⟩, hq⟩ := own_rm0 l s _ hw tables_1 s.heap i0 i1 i2 i3  p e ha hc hk s m _ below hf ((Spec.applies_iff_loose hf).mp happ).1 ⟨rfl, State.Warmed39.refl s, rfl⟩ trivial
  refine ⟨n, _, h1, h2, h3, hpost _ _ _ _ _ _ ⟨Cond.after_iff.mpr rfl, Cond.after_iff.mpr (eq_i res_at (Term.int_eval (1)) rfl), trivial⟩ ⟨hq.1, hq.2.1, (hq.2.2.sift fun y hy => Or.inr (N y hy)).mono (by decide) (by decide)⟩⟩
theorem main_1_1 : Claimed_1_1 := comes_1 fun _ _ _ _ _ _ h hF => ⟨h.1, hF⟩
theorem main_1_2 : Claimed_1_2 := comes_1 fun _ _ _ _ _ _ h hF => ⟨h.2.1, hF⟩
end Jvm.Pilot.@@N@@
namespace Jvm.Pilot.@@N@@
open Jvm Jvm.ClassFile Sem Op Lib Jvm.Free Jvm.Stand Jvm.Pilot.@@N@@.Jvm.D
/-! MADE BY PROGRAM (witnessworld.py) out of the Statement's table words and the real class files: 12 classes; the members and pool entries that the words name. The judged class is class 1, her method 1. -/
namespace start1
open Jvm.ClassFile
def u (s : String) : CpInfo := .utf8 (stringToUtf16 s)
/-- a pool by its gaps: so many unusable entries, then the entry; so many at the end -/
def gap : Nat → List CpInfo → List CpInfo
  | 0, r => r
  | n + 1, r => .unusable :: gap n r
def poolList (es : List (Nat × CpInfo)) (last : Nat) : List CpInfo := es.foldr (fun e r => gap e.1 (e.2 :: r)) (gap last [])
def pool (es : List (Nat × CpInfo)) (last : Nat) : Array CpInfo := ⟨poolList es last⟩
def fileOf (pool : Array CpInfo) (this : Nat) (attrs : Array Attribute := #[]) (ms : Array MethodInfo := #[]) (fl : Nat := 33) (sup : Nat := 0) (ifs : Array Nat := #[]) (fds : Array FieldInfo := #[]) : ClassFile where
  minorVersion := 0
  majorVersion := 65
  constantPool := pool
  accessFlags := fl
  thisClass := this
  superClass := sup
  interfaces := ifs
  fields := fds
  methods := ms
  attributes := attrs
def plain (name : String) (sup : Option ClassId) : Class where
  name := name
  kind := .ordinary
  loader := none
  accessFlags := 33
  super := sup
  interfaces := #[]
  cf := none
  fields := #[]
  methods := #[]
  instanceTypes := #[]
  staticTypes := #[]
  resolved := #[]
  callSites := []
  init := .initialized
  statics := none
  mirror := none

def pool0 : Array CpInfo := pool [(5, u "<init>"), (0, u "()V"), (1, .class_ 10), (1, u "java/lang/Object")] 113

def k0c0 : Code := { maxStack := 0, maxLocals := 1, code := object_method_1_code, exceptionTable := #[], attributes := #[] }
def k0m0 : Method := { name := "<init>", desc := "()V", sig := { parameters := [], returnType := none }, accessFlags := 1, code := some k0c0 }
/-- java/lang/Object -/
def k0 : Class := { plain "java/lang/Object" none with
  accessFlags := 33
  interfaces := #[]
  cf := some (fileOf pool0 8 #[] #[{ accessFlags := 1, nameIndex := 5, descriptorIndex := 6, attributes := #[] }] 33 0 #[] #[])
  fields := #[]
  methods := #[k0m0]
  instanceTypes := #[]
  staticTypes := #[]
  resolved := Array.replicate 124 none
  statics := none }

def pool1 : Array CpInfo := pool [(2, .class_ 4), (0, .nameAndType 5 6), (0, u "java/lang/Object"), (0, u "<init>"), (0, u "()V"), (0, .integer 2147483647), (0, .methodref 9 10), (0, .class_ 11), (0, .nameAndType 12 13), (0, u "com/example/vocab_scan/vocabscan/WordEdgesBytesBeforePinLaw"), (0, u "byteOf"), (0, u "(JI)J"), (0, .class_ 15), (0, u "com/example/vocab_scan/vocabscan/WordEdges"), (0, .methodref 14 3), (0, .methodref 14 18), (0, .nameAndType 19 20), (0, u "lagging"), (0, u "(Lcom/example/vocab_scan/vocabscan/Walk;)Lcom/example/vocab_scan/vocabscan/Walk;"), (0, .methodref 14 22), (0, .nameAndType 23 24), (0, u "walk"), (0, u "([BI)V"), (0, .long 15), (1, .long 3), (1, .long 18446744073709551615), (1, .long 4), (1, .methodref 14 34), (0, .nameAndType 35 36), (0, u "bytesBefore"), (0, u "(J)J"), (0, .long 255), (3, u "law"), (0, u "(JIJI)Z")] 5

def k1m0 : Method := { name := "<init>", desc := "()V", sig := { parameters := [], returnType := none }, accessFlags := 1, code := none }
def k1c1 : Code := { maxStack := 6, maxLocals := 18, code := code, exceptionTable := #[], attributes := #[] }
def k1m1 : Method := { name := "law", desc := "(JIJI)Z", sig := { parameters := [.long, .int, .long, .int], returnType := some .boolean }, accessFlags := 9, code := some k1c1 }
def k1c2 : Code := { maxStack := 4, maxLocals := 3, code := method_3_code, exceptionTable := #[], attributes := #[] }
def k1m2 : Method := { name := "byteOf", desc := "(JI)J", sig := { parameters := [.long, .int], returnType := some .long }, accessFlags := 10, code := some k1c2 }
/-- com/example/vocab_scan/vocabscan/WordEdgesBytesBeforePinLaw -/
def k1 : Class := { plain "com/example/vocab_scan/vocabscan/WordEdgesBytesBeforePinLaw" (some 0) with
  accessFlags := 49
  interfaces := #[]
  cf := some (fileOf pool1 9 #[] #[{ accessFlags := 1, nameIndex := 5, descriptorIndex := 6, attributes := #[] }, { accessFlags := 9, nameIndex := 41, descriptorIndex := 42, attributes := #[] }, { accessFlags := 10, nameIndex := 12, descriptorIndex := 13, attributes := #[] }] 49 2 #[] #[])
  fields := #[]
  methods := #[k1m0, k1m1, k1m2]
  instanceTypes := #[]
  staticTypes := #[]
  resolved := Array.replicate 48 none
  statics := none }

def pool2 : Array CpInfo := pool [(1, .class_ 2), (0, u "com/example/vocab_scan/vocabscan/Walk"), (0, .class_ 4), (0, u "java/lang/Object"), (0, u "walk"), (0, u "([BI)V")] 4

def k2m0 : Method := { name := "walk", desc := "([BI)V", sig := { parameters := [(.array .byte), .int], returnType := none }, accessFlags := 1025, code := none }
/-- com/example/vocab_scan/vocabscan/Walk -/
def k2 : Class := { plain "com/example/vocab_scan/vocabscan/Walk" (some 0) with
  accessFlags := 1536
  interfaces := #[]
  cf := some (fileOf pool2 1 #[] #[{ accessFlags := 1025, nameIndex := 5, descriptorIndex := 6, attributes := #[] }] 1536 3 #[] #[])
  fields := #[]
  methods := #[k2m0]
  instanceTypes := #[]
  staticTypes := #[]
  resolved := Array.replicate 11 none
  statics := none }

def pool3 : Array CpInfo := pool [(1, .methodref 2 3), (0, .class_ 4), (0, .nameAndType 5 6), (0, u "java/lang/Object"), (0, u "<init>"), (0, u "()V"), (0, .fieldref 8 9), (0, .class_ 10), (0, .nameAndType 11 12), (0, u "com/example/vocab_scan/vocabscan/WordEdges"), (0, u "ring"), (0, u "[B"), (0, .long 4), (1, .fieldref 8 16), (0, .nameAndType 17 18), (0, u "behind"), (0, u "J"), (0, .fieldref 8 20), (0, .nameAndType 21 12), (0, u "handing"), (0, .fieldref 8 23), (0, .nameAndType 24 12), (0, u "character"), (10, .fieldref 8 36), (0, .nameAndType 37 38), (0, u "walk"), (0, u "Lcom/example/vocab_scan/vocabscan/Walk;"), (0, .methodref 40 41), (0, .class_ 42), (0, .nameAndType 43 44), (0, u "java/lang/Math"), (0, u "max"), (0, u "(JJ)J"), (0, .fieldref 8 46), (0, .nameAndType 47 18), (0, u "received"), (0, .fieldref 8 49), (0, .nameAndType 50 18), (0, u "handed"), (2, u "ended"), (0, u "Z"), (0, .methodref 8 56), (0, .nameAndType 57 58), (0, u "makeRoom"), (0, u "(I)V"), (0, .methodref 8 60), (0, .nameAndType 61 62), (0, u "slot"), (0, u "(J)I"), (0, .methodref 40 64), (0, .nameAndType 65 66), (0, u "min"), (0, u "(II)I"), (0, .methodref 68 69), (0, .class_ 70), (0, .nameAndType 71 72), (0, u "java/lang/System"), (0, u "arraycopy"), (0, u "(Ljava/lang/Object;ILjava/lang/Object;II)V"), (0, .methodref 8 74), (0, .nameAndType 75 76), (0, u "handOn"), (0, u "(J)V"), (1, .class_ 80), (1, u "com/example/vocab_scan/vocabscan/Walk"), (4, u "ASCII_WORD"), (0, u "[Z"), (16, .long 18446744073709551615), (1, .long 4294967295), (3, .interfaceMethodref 78 110), (0, .nameAndType 37 111), (0, u "([BI)V"), (0, .long 1073741824), (22, u "(J)J"), (27, u "LAG"), (0, u "I"), (2, u "CONTEXT"), (3, u "lagging"), (0, u "(Lcom/example/vocab_scan/vocabscan/Walk;)Lcom/example/vocab_scan/vocabscan/Walk;"), (4, u "bytesBefore")] 5

def k3c0 : Code := { maxStack := 3, maxLocals := 1, code := prog_95_method_1_code, exceptionTable := #[], attributes := #[] }
def k3m0 : Method := { name := "<init>", desc := "()V", sig := { parameters := [], returnType := none }, accessFlags := 0, code := some k3c0 }
def k3c1 : Code := { maxStack := 2, maxLocals := 2, code := prog_95_method_3_code, exceptionTable := #[], attributes := #[] }
def k3m1 : Method := { name := "lagging", desc := "(Lcom/example/vocab_scan/vocabscan/Walk;)Lcom/example/vocab_scan/vocabscan/Walk;", sig := { parameters := [(.object "com/example/vocab_scan/vocabscan/Walk")], returnType := some (.object "com/example/vocab_scan/vocabscan/Walk") }, accessFlags := 0, code := some k3c1 }
def k3c2 : Code := { maxStack := 6, maxLocals := 5, code := prog_95_method_6_code, exceptionTable := #[], attributes := #[] }
def k3m2 : Method := { name := "walk", desc := "([BI)V", sig := { parameters := [(.array .byte), .int], returnType := none }, accessFlags := 1, code := some k3c2 }
def k3c3 : Code := { maxStack := 4, maxLocals := 7, code := prog_95_method_12_code, exceptionTable := #[], attributes := #[] }
def k3m3 : Method := { name := "bytesBefore", desc := "(J)J", sig := { parameters := [.long], returnType := some .long }, accessFlags := 0, code := some k3c3 }
def k3c4 : Code := { maxStack := 6, maxLocals := 6, code := prog_95_method_13_code, exceptionTable := #[], attributes := #[] }
def k3m4 : Method := { name := "handOn", desc := "(J)V", sig := { parameters := [.long], returnType := none }, accessFlags := 2, code := some k3c4 }
def k3c5 : Code := { maxStack := 6, maxLocals := 9, code := prog_95_method_14_code, exceptionTable := #[], attributes := #[] }
def k3m5 : Method := { name := "makeRoom", desc := "(I)V", sig := { parameters := [.int], returnType := none }, accessFlags := 2, code := some k3c5 }
def k3c6 : Code := { maxStack := 3, maxLocals := 3, code := prog_95_method_22_code, exceptionTable := #[], attributes := #[] }
def k3m6 : Method := { name := "slot", desc := "(J)I", sig := { parameters := [.long], returnType := some .int }, accessFlags := 2, code := some k3c6 }
/-- com/example/vocab_scan/vocabscan/WordEdges -/
def k3 : Class := { plain "com/example/vocab_scan/vocabscan/WordEdges" (some 0) with
  accessFlags := 48
  interfaces := #[2]
  cf := some (fileOf pool3 8 #[] #[{ accessFlags := 0, nameIndex := 5, descriptorIndex := 6, attributes := #[] }, { accessFlags := 0, nameIndex := 171, descriptorIndex := 172, attributes := #[] }, { accessFlags := 1, nameIndex := 37, descriptorIndex := 111, attributes := #[] }, { accessFlags := 0, nameIndex := 177, descriptorIndex := 135, attributes := #[] }, { accessFlags := 2, nameIndex := 75, descriptorIndex := 76, attributes := #[] }, { accessFlags := 2, nameIndex := 57, descriptorIndex := 58, attributes := #[] }, { accessFlags := 2, nameIndex := 61, descriptorIndex := 62, attributes := #[] }] 48 2 #[78] #[{ accessFlags := 24, nameIndex := 163, descriptorIndex := 164, attributes := #[] }, { accessFlags := 24, nameIndex := 167, descriptorIndex := 164, attributes := #[] }, { accessFlags := 26, nameIndex := 85, descriptorIndex := 86, attributes := #[] }, { accessFlags := 2, nameIndex := 11, descriptorIndex := 12, attributes := #[] }, { accessFlags := 2, nameIndex := 17, descriptorIndex := 18, attributes := #[] }, { accessFlags := 2, nameIndex := 47, descriptorIndex := 18, attributes := #[] }, { accessFlags := 2, nameIndex := 50, descriptorIndex := 18, attributes := #[] }, { accessFlags := 2, nameIndex := 53, descriptorIndex := 54, attributes := #[] }, { accessFlags := 2, nameIndex := 21, descriptorIndex := 12, attributes := #[] }, { accessFlags := 18, nameIndex := 24, descriptorIndex := 12, attributes := #[] }, { accessFlags := 2, nameIndex := 37, descriptorIndex := 38, attributes := #[] }])
  fields := #[{ name := "LAG", type := .int, accessFlags := 24, slot := 0, constantValue := 0 }, { name := "CONTEXT", type := .int, accessFlags := 24, slot := 1, constantValue := 0 }, { name := "ASCII_WORD", type := (.array .boolean), accessFlags := 26, slot := 2, constantValue := 0 }, { name := "ring", type := (.array .byte), accessFlags := 2, slot := 0, constantValue := 0 }, { name := "behind", type := .long, accessFlags := 2, slot := 1, constantValue := 0 }, { name := "received", type := .long, accessFlags := 2, slot := 2, constantValue := 0 }, { name := "handed", type := .long, accessFlags := 2, slot := 3, constantValue := 0 }, { name := "ended", type := .boolean, accessFlags := 2, slot := 4, constantValue := 0 }, { name := "handing", type := (.array .byte), accessFlags := 2, slot := 5, constantValue := 0 }, { name := "character", type := (.array .byte), accessFlags := 18, slot := 6, constantValue := 0 }, { name := "walk", type := (.object "com/example/vocab_scan/vocabscan/Walk"), accessFlags := 2, slot := 7, constantValue := 0 }]
  methods := #[k3m0, k3m1, k3m2, k3m3, k3m4, k3m5, k3m6]
  instanceTypes := #[(.array .byte), .long, .long, .long, .boolean, (.array .byte), (.array .byte), (.object "com/example/vocab_scan/vocabscan/Walk")]
  staticTypes := #[.int, .int, (.array .boolean)]
  resolved := Array.replicate 183 none
  statics := none }

def pool4 : Array CpInfo := pool [(1, .class_ 2), (0, u "java/lang/Math"), (1, .class_ 6), (1, u "java/lang/Object"), (0, u "<init>"), (0, u "()V"), (89, .class_ 100), (1, u "java/lang/Math$RandomNumberGeneratorHolder"), (20, u "(JJ)J"), (50, u "negativeZeroFloatBits"), (0, u "J"), (2, u "negativeZeroDoubleBits"), (21, u "max"), (2, u "min"), (43, u "$assertionsDisabled"), (0, u "Z"), (88, u "(II)I"), (2, u "twoToTheDoubleScaleDown"), (0, u "D"), (4, u "twoToTheDoubleScaleUp"), (9, u "E"), (3, u "PI"), (2, u "TAU"), (2, u "DEGREES_TO_RADIANS"), (0, u "RADIANS_TO_DEGREES")] 94

def k4m0 : Method := { name := "<init>", desc := "()V", sig := { parameters := [], returnType := none }, accessFlags := 2, code := none }
def k4c1 : Code := { maxStack := 4, maxLocals := 4, code := jdk_29_method_66_code, exceptionTable := #[], attributes := #[] }
def k4m1 : Method := { name := "max", desc := "(JJ)J", sig := { parameters := [.long, .long], returnType := some .long }, accessFlags := 9, code := some k4c1 }
def k4c2 : Code := { maxStack := 2, maxLocals := 2, code := jdk_29_method_69_code, exceptionTable := #[], attributes := #[] }
def k4m2 : Method := { name := "min", desc := "(II)I", sig := { parameters := [.int, .int], returnType := some .int }, accessFlags := 9, code := some k4c2 }
/-- java/lang/Math -/
def k4 : Class := { plain "java/lang/Math" (some 0) with
  accessFlags := 49
  interfaces := #[]
  cf := some (fileOf pool4 1 #[.nestMembers #[98]] #[{ accessFlags := 2, nameIndex := 7, descriptorIndex := 8, attributes := #[] }, { accessFlags := 9, nameIndex := 198, descriptorIndex := 121, attributes := #[] }, { accessFlags := 9, nameIndex := 201, descriptorIndex := 335, attributes := #[] }] 49 4 #[] #[{ accessFlags := 25, nameIndex := 354, descriptorIndex := 339, attributes := #[] }, { accessFlags := 25, nameIndex := 358, descriptorIndex := 339, attributes := #[] }, { accessFlags := 25, nameIndex := 361, descriptorIndex := 339, attributes := #[] }, { accessFlags := 26, nameIndex := 364, descriptorIndex := 339, attributes := #[] }, { accessFlags := 26, nameIndex := 365, descriptorIndex := 339, attributes := #[] }, { accessFlags := 26, nameIndex := 172, descriptorIndex := 173, attributes := #[] }, { accessFlags := 26, nameIndex := 176, descriptorIndex := 173, attributes := #[] }, { accessFlags := 8, nameIndex := 344, descriptorIndex := 339, attributes := #[] }, { accessFlags := 8, nameIndex := 338, descriptorIndex := 339, attributes := #[] }, { accessFlags := 4120, nameIndex := 245, descriptorIndex := 246, attributes := #[] }])
  fields := #[{ name := "E", type := .double, accessFlags := 25, slot := 0, constantValue := 0 }, { name := "PI", type := .double, accessFlags := 25, slot := 1, constantValue := 0 }, { name := "TAU", type := .double, accessFlags := 25, slot := 2, constantValue := 0 }, { name := "DEGREES_TO_RADIANS", type := .double, accessFlags := 26, slot := 3, constantValue := 0 }, { name := "RADIANS_TO_DEGREES", type := .double, accessFlags := 26, slot := 4, constantValue := 0 }, { name := "negativeZeroFloatBits", type := .long, accessFlags := 26, slot := 5, constantValue := 0 }, { name := "negativeZeroDoubleBits", type := .long, accessFlags := 26, slot := 6, constantValue := 0 }, { name := "twoToTheDoubleScaleUp", type := .double, accessFlags := 8, slot := 7, constantValue := 0 }, { name := "twoToTheDoubleScaleDown", type := .double, accessFlags := 8, slot := 8, constantValue := 0 }, { name := "$assertionsDisabled", type := .boolean, accessFlags := 4120, slot := 9, constantValue := 0 }]
  methods := #[k4m0, k4m1, k4m2]
  instanceTypes := #[]
  staticTypes := #[.double, .double, .double, .double, .double, .long, .long, .double, .double, .boolean]
  resolved := Array.replicate 460 none
  statics := none }

def pool5 : Array CpInfo := pool [(2, .class_ 4), (1, u "java/lang/Object"), (0, u "<init>"), (0, u "()V"), (1, .class_ 10), (1, u "java/lang/System"), (0, u "allowSecurityManager"), (0, u "I"), (16, u "cons"), (0, u "Ljava/io/Console;"), (77, .class_ 110), (1, u "java/lang/System$CallersHolder"), (43, u "initialErrStream"), (0, u "Ljava/io/PrintStream;"), (19, u "security"), (0, u "Ljava/lang/SecurityManager;"), (31, .class_ 209), (0, u "java/lang/System$1"), (7, u "props"), (0, u "Ljava/util/Properties;"), (2, u "lineSeparator"), (0, u "Ljava/lang/String;"), (96, .class_ 321), (1, u "java/lang/System$LoggerFinder"), (5, .class_ 328), (0, u "java/lang/System$Logger"), (67, u "err"), (2, u "out"), (91, u "notSupportedJnuEncoding"), (15, u "in"), (17, u "initialIn"), (0, u "Ljava/io/InputStream;"), (35, u "bootLayer"), (0, u "Ljava/lang/ModuleLayer;"), (99, .class_ 664), (0, u "java/lang/System$2"), (9, u "NEVER"), (2, u "MAYBE"), (49, u "arraycopy"), (0, u "(Ljava/lang/Object;ILjava/lang/Object;II)V"), (72, .class_ 802), (0, u "java/lang/System$Logger$Level")] 31

def k5m0 : Method := { name := "<init>", desc := "()V", sig := { parameters := [], returnType := none }, accessFlags := 2, code := none }
def k5m1 : Method := { name := "arraycopy", desc := "(Ljava/lang/Object;ILjava/lang/Object;II)V", sig := { parameters := [(.object "java/lang/Object"), .int, (.object "java/lang/Object"), .int, .int], returnType := none }, accessFlags := 265, code := none }
/-- java/lang/System -/
def k5 : Class := { plain "java/lang/System" (some 0) with
  accessFlags := 49
  interfaces := #[]
  cf := some (fileOf pool5 8 #[.nestMembers #[319, 327, 801, 108, 663, 208]] #[{ accessFlags := 2, nameIndex := 5, descriptorIndex := 6, attributes := #[] }, { accessFlags := 265, nameIndex := 727, descriptorIndex := 728, attributes := #[] }] 49 2 #[] #[{ accessFlags := 25, nameIndex := 507, descriptorIndex := 526, attributes := #[] }, { accessFlags := 25, nameIndex := 399, descriptorIndex := 155, attributes := #[] }, { accessFlags := 25, nameIndex := 396, descriptorIndex := 155, attributes := #[] }, { accessFlags := 10, nameIndex := 525, descriptorIndex := 526, attributes := #[] }, { accessFlags := 26, nameIndex := 674, descriptorIndex := 12, attributes := #[] }, { accessFlags := 26, nameIndex := 677, descriptorIndex := 12, attributes := #[] }, { accessFlags := 10, nameIndex := 11, descriptorIndex := 12, attributes := #[] }, { accessFlags := 74, nameIndex := 175, descriptorIndex := 176, attributes := #[] }, { accessFlags := 10, nameIndex := 491, descriptorIndex := 222, attributes := #[] }, { accessFlags := 74, nameIndex := 29, descriptorIndex := 30, attributes := #[] }, { accessFlags := 74, nameIndex := 154, descriptorIndex := 155, attributes := #[] }, { accessFlags := 10, nameIndex := 217, descriptorIndex := 218, attributes := #[] }, { accessFlags := 10, nameIndex := 221, descriptorIndex := 222, attributes := #[] }, { accessFlags := 8, nameIndex := 562, descriptorIndex := 563, attributes := #[] }])
  fields := #[{ name := "in", type := (.object "java/io/InputStream"), accessFlags := 25, slot := 0, constantValue := 0 }, { name := "out", type := (.object "java/io/PrintStream"), accessFlags := 25, slot := 1, constantValue := 0 }, { name := "err", type := (.object "java/io/PrintStream"), accessFlags := 25, slot := 2, constantValue := 0 }, { name := "initialIn", type := (.object "java/io/InputStream"), accessFlags := 10, slot := 3, constantValue := 0 }, { name := "NEVER", type := .int, accessFlags := 26, slot := 4, constantValue := 0 }, { name := "MAYBE", type := .int, accessFlags := 26, slot := 5, constantValue := 0 }, { name := "allowSecurityManager", type := .int, accessFlags := 10, slot := 6, constantValue := 0 }, { name := "security", type := (.object "java/lang/SecurityManager"), accessFlags := 74, slot := 7, constantValue := 0 }, { name := "notSupportedJnuEncoding", type := (.object "java/lang/String"), accessFlags := 10, slot := 8, constantValue := 0 }, { name := "cons", type := (.object "java/io/Console"), accessFlags := 74, slot := 9, constantValue := 0 }, { name := "initialErrStream", type := (.object "java/io/PrintStream"), accessFlags := 74, slot := 10, constantValue := 0 }, { name := "props", type := (.object "java/util/Properties"), accessFlags := 10, slot := 11, constantValue := 0 }, { name := "lineSeparator", type := (.object "java/lang/String"), accessFlags := 10, slot := 12, constantValue := 0 }, { name := "bootLayer", type := (.object "java/lang/ModuleLayer"), accessFlags := 8, slot := 13, constantValue := 0 }]
  methods := #[k5m0, k5m1]
  instanceTypes := #[]
  staticTypes := #[(.object "java/io/InputStream"), (.object "java/io/PrintStream"), (.object "java/io/PrintStream"), (.object "java/io/InputStream"), .int, .int, .int, (.object "java/lang/SecurityManager"), (.object "java/lang/String"), (.object "java/io/Console"), (.object "java/io/PrintStream"), (.object "java/util/Properties"), (.object "java/lang/String"), (.object "java/lang/ModuleLayer")]
  resolved := Array.replicate 834 none
  statics := none }

def pool6 : Array CpInfo := pool [(1, u "java/lang/Cloneable"), (0, .class_ 1), (0, u "java/lang/Object"), (0, .class_ 3)] 3

/-- java/lang/Cloneable -/
def k6 : Class := { plain "java/lang/Cloneable" (some 0) with
  accessFlags := 1537
  interfaces := #[]
  cf := some (fileOf pool6 2 #[] #[] 1537 4 #[] #[])
  fields := #[]
  methods := #[]
  instanceTypes := #[]
  staticTypes := #[]
  resolved := Array.replicate 8 none
  statics := none }

def pool7 : Array CpInfo := pool [(1, u "java/io/Serializable"), (0, .class_ 1), (0, u "java/lang/Object"), (0, .class_ 3)] 3

/-- java/io/Serializable -/
def k7 : Class := { plain "java/io/Serializable" (some 0) with
  accessFlags := 1537
  interfaces := #[]
  cf := some (fileOf pool7 2 #[] #[] 1537 4 #[] #[])
  fields := #[]
  methods := #[]
  instanceTypes := #[]
  staticTypes := #[]
  resolved := Array.replicate 8 none
  statics := none }

/-- the primitive byte -/
def k8 : Class := { plain "byte" none with kind := .primitive 'B', accessFlags := 0x411 }
/-- [B -/
def k9 : Class := { plain "[B" (some 0) with kind := .array 8 .byte, interfaces := #[6, 7], accessFlags := 1041 }

/-- the primitive int -/
def k10 : Class := { plain "int" none with kind := .primitive 'I', accessFlags := 0x411 }
/-- [I -/
def k11 : Class := { plain "[I" (some 0) with kind := .array 10 .int, interfaces := #[6, 7], accessFlags := 1041 }

def heap : Heap := #[]
def classes : Array Class := #[k0, k1, k2, k3, k4, k5, k6, k7, k8, k9, k10, k11]
def interned : List (Array UInt16 × Addr) := []
def slotsUsed : Nat := 0
def theMethod : MethodId := ⟨1, 1⟩
def args0 : Array Value := #[.long 5, .int 7, .long 9, .int 0]
def aboutOver (below : List Frame) : State where
  vm := { classes := classes, interned := interned.toArray }
  heap := heap
  slotsUsed := slotsUsed
  threads := #[{ frames := .invoking theMethod args0 :: below }]
def below0 : List Frame := [.native { method := ⟨0, 0⟩, args := #[] }]
def about1 : State := aboutOver below0
def p0 : Program := .bare "" "" ""
def e0 : Env := launch0.env 0 0 0
theorem w_frames : about1.frames = Frame.invoking theMethod args0 :: below0 := rfl
set_option maxRecDepth 65536 in
theorem w_args : argsFit about1.vm theMethod args0 = true := by decide +kernel
set_option maxRecDepth 65536 in
theorem w_heap : heapFits about1 = true := by decide +kernel
set_option maxRecDepth 65536 in
theorem w_runnable : about1.curStatus? = some .runnable := by decide +kernel
set_option maxRecDepth 65536 in
theorem w_alone : about1.alone = true := by decide +kernel
set_option maxRecDepth 65536 in
theorem w_named : about1.methodNamed? x = some theMethod := by decide +kernel
set_option maxRecDepth 65536 in
theorem w_hears : about1.hears theMethod below0 = true := by decide +kernel
set_option maxRecDepth 65536 in
theorem w_ripe : about1.ripe theMethod args0 below0 = true := by decide +kernel
theorem w_running : about1.status = .running := rfl
set_option maxRecDepth 65536 in
theorem w_room : about1.hasRoom e0.platform room_1 = true :=
  launch0.hasRoom_least _ room_1 (by decide +kernel) (by decide +kernel) (by decide +kernel) (by decide +kernel) (by decide +kernel) (by decide +kernel)
theorem allAtoms_all (ts : List Jvm.Cond) (a : Array Jvm.Value) (st : Jvm.State) : (allAtoms ts).before a st = ts.all (fun c => c.before a st) := by
  induction ts with
  | nil => rfl
  | cons c t ih =>
    show (Jvm.Cond.and c (allAtoms t)).before a st = _
    rw [Jvm.Cond.before_and, ih, List.all_cons]
def words1 : List Jvm.Cond := Jvm.Cond.code x code maxLocals ret :: tables_1
/-- a 'code' word, met by the world's own term for the bytes: nothing is compared byte by byte -/
theorem code_word {y : MethodName} {bytes : ByteArray} {mx : Nat} {rt : Option FieldType} {a : Array Value} {s : State} {m : MethodId} {meth : Method} {c : Code} (h1 : s.methodNamed? y = some m) (h2 : s.vm.method? m = some meth) (h3 : meth.code = some c) (h4 : c.code = bytes)
    (h5 : (c.maxLocals == mx && c.exceptionTable.isEmpty && decide (c.maxStack ≤ mostOperands) && decide (meth.sig.returnType = rt) && !meth.locks && decide (parseMethodDescriptor y.desc = some meth.sig)) = true) : (Jvm.Cond.code y bytes mx rt).before a s = true := by
  simp only [Bool.and_eq_true, beq_iff_eq, Bool.not_eq_true', decide_eq_true_eq] at h5
  obtain ⟨⟨⟨⟨⟨g1, g2⟩, g3⟩, g4⟩, g5⟩, g6⟩ := h5
  simp [Cond.before, Cond.holds, Cond.value, h1, h2, h3, h4, g1, g2, g3, g4, g5, g6]
def isCode : Jvm.Cond → Bool
  | .code _ _ _ _ => true
  | _ => false
theorem all_split {L : List Jvm.Cond} {P : Jvm.Cond → Bool} (h1 : L.all (fun c => isCode c || P c) = true) (h2 : ∀ c ∈ L.filter isCode, P c = true) : L.all P = true := by
  refine List.all_eq_true.mpr fun c hc => ?_
  have h := List.all_eq_true.mp h1 c hc
  rcases Bool.eq_false_or_eq_true (isCode c) with hi | hi
  · exact h2 c (List.mem_filter.mpr ⟨hc, hi⟩)
  · simpa [hi] using h
set_option maxRecDepth 65536 in
theorem w_c0 : (Jvm.Cond.code x code maxLocals ret).before args0 about1 = true := code_word (m := ⟨1, 1⟩) (meth := k1m1) (c := k1c1) (by decide +kernel) rfl rfl rfl (by decide +kernel)
set_option maxRecDepth 65536 in
theorem w_c1 : (Jvm.Cond.code ({ cls := "com/example/vocab_scan/vocabscan/WordEdgesBytesBeforePinLaw", name := "byteOf", desc := "(JI)J" } : Jvm.MethodName) method_3_code (3 : Nat) (Option.some Jvm.ClassFile.FieldType.long)).before args0 about1 = true := code_word (m := ⟨1, 2⟩) (meth := k1m2) (c := k1c2) (by decide +kernel) rfl rfl rfl (by decide +kernel)
set_option maxRecDepth 65536 in
theorem w_c2 : (Jvm.Cond.code ({ cls := "com/example/vocab_scan/vocabscan/WordEdges", name := "<init>", desc := "()V" } : Jvm.MethodName) prog_95_method_1_code (1 : Nat) (Option.none : Option Jvm.ClassFile.FieldType)).before args0 about1 = true := code_word (m := ⟨3, 0⟩) (meth := k3m0) (c := k3c0) (by decide +kernel) rfl rfl rfl (by decide +kernel)
set_option maxRecDepth 65536 in
theorem w_c3 : (Jvm.Cond.code ({ cls := "java/lang/Object", name := "<init>", desc := "()V" } : Jvm.MethodName) object_method_1_code (1 : Nat) (Option.none : Option Jvm.ClassFile.FieldType)).before args0 about1 = true := code_word (m := ⟨0, 0⟩) (meth := k0m0) (c := k0c0) (by decide +kernel) rfl rfl rfl (by decide +kernel)
set_option maxRecDepth 65536 in
theorem w_c4 : (Jvm.Cond.code ({ cls := "com/example/vocab_scan/vocabscan/WordEdges", name := "lagging", desc := "(Lcom/example/vocab_scan/vocabscan/Walk;)Lcom/example/vocab_scan/vocabscan/Walk;" } : Jvm.MethodName) prog_95_method_3_code (2 : Nat) (Option.some (Jvm.ClassFile.FieldType.object "com/example/vocab_scan/vocabscan/Walk"))).before args0 about1 = true := code_word (m := ⟨3, 1⟩) (meth := k3m1) (c := k3c1) (by decide +kernel) rfl rfl rfl (by decide +kernel)
set_option maxRecDepth 65536 in
theorem w_c5 : (Jvm.Cond.code ({ cls := "com/example/vocab_scan/vocabscan/WordEdges", name := "walk", desc := "([BI)V" } : Jvm.MethodName) prog_95_method_6_code (5 : Nat) (Option.none : Option Jvm.ClassFile.FieldType)).before args0 about1 = true := code_word (m := ⟨3, 2⟩) (meth := k3m2) (c := k3c2) (by decide +kernel) rfl rfl rfl (by decide +kernel)
set_option maxRecDepth 65536 in
theorem w_c6 : (Jvm.Cond.code ({ cls := "com/example/vocab_scan/vocabscan/WordEdges", name := "makeRoom", desc := "(I)V" } : Jvm.MethodName) prog_95_method_14_code (9 : Nat) (Option.none : Option Jvm.ClassFile.FieldType)).before args0 about1 = true := code_word (m := ⟨3, 5⟩) (meth := k3m5) (c := k3c5) (by decide +kernel) rfl rfl rfl (by decide +kernel)
set_option maxRecDepth 65536 in
theorem w_c7 : (Jvm.Cond.code ({ cls := "java/lang/Math", name := "max", desc := "(JJ)J" } : Jvm.MethodName) jdk_29_method_66_code (4 : Nat) (Option.some Jvm.ClassFile.FieldType.long)).before args0 about1 = true := code_word (m := ⟨4, 1⟩) (meth := k4m1) (c := k4c1) (by decide +kernel) rfl rfl rfl (by decide +kernel)
set_option maxRecDepth 65536 in
theorem w_c8 : (Jvm.Cond.code ({ cls := "com/example/vocab_scan/vocabscan/WordEdges", name := "slot", desc := "(J)I" } : Jvm.MethodName) prog_95_method_22_code (3 : Nat) (Option.some Jvm.ClassFile.FieldType.int)).before args0 about1 = true := code_word (m := ⟨3, 6⟩) (meth := k3m6) (c := k3c6) (by decide +kernel) rfl rfl rfl (by decide +kernel)
set_option maxRecDepth 65536 in
theorem w_c9 : (Jvm.Cond.code ({ cls := "java/lang/Math", name := "min", desc := "(II)I" } : Jvm.MethodName) jdk_29_method_69_code (2 : Nat) (Option.some Jvm.ClassFile.FieldType.int)).before args0 about1 = true := code_word (m := ⟨4, 2⟩) (meth := k4m2) (c := k4c2) (by decide +kernel) rfl rfl rfl (by decide +kernel)
set_option maxRecDepth 65536 in
theorem w_c10 : (Jvm.Cond.code ({ cls := "com/example/vocab_scan/vocabscan/WordEdges", name := "handOn", desc := "(J)V" } : Jvm.MethodName) prog_95_method_13_code (6 : Nat) (Option.none : Option Jvm.ClassFile.FieldType)).before args0 about1 = true := code_word (m := ⟨3, 4⟩) (meth := k3m4) (c := k3c4) (by decide +kernel) rfl rfl rfl (by decide +kernel)
set_option maxRecDepth 65536 in
theorem w_c11 : (Jvm.Cond.code ({ cls := "com/example/vocab_scan/vocabscan/WordEdges", name := "bytesBefore", desc := "(J)J" } : Jvm.MethodName) prog_95_method_12_code (7 : Nat) (Option.some Jvm.ClassFile.FieldType.long)).before args0 about1 = true := code_word (m := ⟨3, 3⟩) (meth := k3m3) (c := k3c3) (by decide +kernel) rfl rfl rfl (by decide +kernel)
def codes1 : List Jvm.Cond := [Jvm.Cond.code x code maxLocals ret, Jvm.Cond.code ({ cls := "com/example/vocab_scan/vocabscan/WordEdgesBytesBeforePinLaw", name := "byteOf", desc := "(JI)J" } : Jvm.MethodName) method_3_code (3 : Nat) (Option.some Jvm.ClassFile.FieldType.long), Jvm.Cond.code ({ cls := "com/example/vocab_scan/vocabscan/WordEdges", name := "<init>", desc := "()V" } : Jvm.MethodName) prog_95_method_1_code (1 : Nat) (Option.none : Option Jvm.ClassFile.FieldType), Jvm.Cond.code ({ cls := "java/lang/Object", name := "<init>", desc := "()V" } : Jvm.MethodName) object_method_1_code (1 : Nat) (Option.none : Option Jvm.ClassFile.FieldType), Jvm.Cond.code ({ cls := "com/example/vocab_scan/vocabscan/WordEdges", name := "lagging", desc := "(Lcom/example/vocab_scan/vocabscan/Walk;)Lcom/example/vocab_scan/vocabscan/Walk;" } : Jvm.MethodName) prog_95_method_3_code (2 : Nat) (Option.some (Jvm.ClassFile.FieldType.object "com/example/vocab_scan/vocabscan/Walk")), Jvm.Cond.code ({ cls := "com/example/vocab_scan/vocabscan/WordEdges", name := "walk", desc := "([BI)V" } : Jvm.MethodName) prog_95_method_6_code (5 : Nat) (Option.none : Option Jvm.ClassFile.FieldType), Jvm.Cond.code ({ cls := "com/example/vocab_scan/vocabscan/WordEdges", name := "makeRoom", desc := "(I)V" } : Jvm.MethodName) prog_95_method_14_code (9 : Nat) (Option.none : Option Jvm.ClassFile.FieldType), Jvm.Cond.code ({ cls := "java/lang/Math", name := "max", desc := "(JJ)J" } : Jvm.MethodName) jdk_29_method_66_code (4 : Nat) (Option.some Jvm.ClassFile.FieldType.long), Jvm.Cond.code ({ cls := "com/example/vocab_scan/vocabscan/WordEdges", name := "slot", desc := "(J)I" } : Jvm.MethodName) prog_95_method_22_code (3 : Nat) (Option.some Jvm.ClassFile.FieldType.int), Jvm.Cond.code ({ cls := "java/lang/Math", name := "min", desc := "(II)I" } : Jvm.MethodName) jdk_29_method_69_code (2 : Nat) (Option.some Jvm.ClassFile.FieldType.int), Jvm.Cond.code ({ cls := "com/example/vocab_scan/vocabscan/WordEdges", name := "handOn", desc := "(J)V" } : Jvm.MethodName) prog_95_method_13_code (6 : Nat) (Option.none : Option Jvm.ClassFile.FieldType), Jvm.Cond.code ({ cls := "com/example/vocab_scan/vocabscan/WordEdges", name := "bytesBefore", desc := "(J)J" } : Jvm.MethodName) prog_95_method_12_code (7 : Nat) (Option.some Jvm.ClassFile.FieldType.long)]
set_option maxRecDepth 65536 in
theorem codes_eq : words1.filter isCode = codes1 := rfl
theorem w_codes : ∀ c ∈ words1.filter isCode, c.before args0 about1 = true := by
  rw [codes_eq]
  intro c hc
  simp only [codes1, List.mem_cons, List.not_mem_nil, or_false] at hc
  rcases hc with rfl | rfl | rfl | rfl | rfl | rfl | rfl | rfl | rfl | rfl | rfl | rfl
  · exact w_c0
  · exact w_c1
  · exact w_c2
  · exact w_c3
  · exact w_c4
  · exact w_c5
  · exact w_c6
  · exact w_c7
  · exact w_c8
  · exact w_c9
  · exact w_c10
  · exact w_c11
set_option maxRecDepth 65536 in
theorem w_t1 : (words1.take 24).all (fun c => isCode c || c.before args0 about1) = true := by decide +kernel
set_option maxRecDepth 65536 in
theorem w_t2 : ((words1.drop 24).take 24).all (fun c => isCode c || c.before args0 about1) = true := by decide +kernel
set_option maxRecDepth 65536 in
theorem w_t3 : (((words1.drop 24).drop 24).take 24).all (fun c => isCode c || c.before args0 about1) = true := by decide +kernel
set_option maxRecDepth 65536 in
theorem w_t4 : (((words1.drop 24).drop 24).drop 24).all (fun c => isCode c || c.before args0 about1) = true := by decide +kernel
theorem w_tables : (allAtoms (Jvm.Cond.code x code maxLocals ret :: tables_1)).before args0 about1 = true := by
  rw [allAtoms_all]
  show words1.all (fun c => c.before args0 about1) = true
  refine all_split ?_ w_codes
  rw [← List.take_append_drop 24 words1, List.all_append, w_t1, ← List.take_append_drop 24 (words1.drop 24), List.all_append, w_t2, ← List.take_append_drop 24 ((words1.drop 24).drop 24), List.all_append, w_t3, w_t4]
  rfl
set_option maxRecDepth 65536 in
theorem w_case : (Jvm.Cond.and given_1 narrow_1).before args0 about1 = true := by decide +kernel
theorem w_applies : (headSpec (Jvm.Cond.code x code maxLocals ret :: tables_1) room_1).applies x e0.platform about1 = true :=
  (Spec.applies_iff w_frames).mpr ⟨w_running, w_runnable, w_alone, w_named, w_hears, w_ripe, w_room, w_tables⟩
theorem atStart : AtStart classFile x code maxLocals ret World_1 tables_1 room_1 Calls_1 rest_1 Pre_1 launch0 p0 e0 about1 theMethod args0 below0 :=
  ⟨lists_1, trivial, launch0.admits_env _ _ _, launch0.least_env, fairChoices_fair.cas, fairChoices_fair.clock, w_frames, w_args, w_heap, w_applies, trivial, trivial, w_case⟩
end start1
theorem witness_1 : WitnessClaimed_1 := ⟨start1.p0, start1.e0, start1.about1, start1.theMethod, start1.args0, start1.below0, start1.atStart⟩
end Jvm.Pilot.@@N@@
