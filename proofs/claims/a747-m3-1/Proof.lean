import JvmDerived
import JvmDerived.Pilot.@@N@@Statement
import JvmDerived.Pilot.@@N@@Code
set_option linter.unusedVariables false
set_option linter.unusedSimpArgs false
@@BLOCK:NumsL.lean.txt@@
namespace Jvm.Pilot.@@N@@
open Jvm Jvm.ClassFile Sem Op Lib Jvm.Free Jvm.Stand Jvm.LawKit Jvm.RoadKit Bundle Jvm.Pilot.@@N@@.Jvm.D
/-- a long's slot, written short -/
abbrev jv (x : Int64) : Slot := .val (.long x)
section OwnKit
variable {p : Program} {l : Launch} {e : Env} {R : Room} {s : State} {m : MethodId} {args : Array Value} {below : List Frame} {meth : Method} {c : Code} {T T' : State} {locs : List Loc} {cells slots : Nat} {Q : Option Value → Heap → List Loc → Prop} {kc ks : Nat} {g : JFrame} {Z : State} {a0 : Array Value} {h : Heap}
/-- what is left to do, from the state T with the top frame g: the run comes to the invocation's end, returns, and the end is as Q says -/
def own_G (p : Program) (e : Env) (below : List Frame) (s : State) (Q : Option Value → Heap → List Loc → Prop) (kc ks : Nat) (T : State) (g : JFrame) : Prop :=
  ∃ t o, Steps p.tables e below (T.setTop g) t ∧ t.status = .running ∧ Ended t below o ∧ ∃ v L, o = .returned v ∧ Q v t.heap L ∧ FrameEnd s o t L kc ks
theorem own_go (g' : JFrame) (k : ∀ t, Steps p.tables e below (T'.setTop g') t → Steps p.tables e below (T.setTop g) t) (h : own_G p e below s Q kc ks T' g') : own_G p e below s Q kc ks T g := by
  obtain ⟨t, o, h1, h2⟩ := h
  exact ⟨t, o, k t h1, h2⟩
/-- a step that leaves the locals alone -/
theorem own_gs {pc : Nat} {Ls : Array Slot} {S : List Value} (pc' : Nat) (S' : List Value) (k : ∀ t, Steps p.tables e below (T.setTop (mkF m pc' Ls S')) t → Steps p.tables e below (T.setTop (mkF m pc Ls S)) t) (h : own_G p e below s Q kc ks T (mkF m pc' Ls S')) : own_G p e below s Q kc ks T (mkF m pc Ls S) := own_go _ k h
theorem own_out (X : Stand p l e R s m args below meth c T locs cells slots) (hlk : meth.locks = false) {v : Option Value} (hv : meth.sig.returnType = none → v = none)
    (st : ∀ fs, (∀ (f : JFrame) (acts : List Action), f.method = m → f.locked = none → f.entered = [] → (doReturn e (T.setTop f) acts v).1 = T.setFrames fs) → Steps p.tables e below (T.setTop g) (T.setFrames fs))
    (hQ : Q v T.heap locs) (h1 : cells ≤ kc) (h2 : slots ≤ ks) : own_G p e below s Q kc ks T g := by
  obtain ⟨fs, hr, hrun, hended, hW, hsame⟩ := X.leave (v := v) hv hlk
  exact ⟨_, _, st fs hr, hrun, hended, v, locs, rfl, hQ, ⟨_, rfl⟩, hW, hsame.mono h1 h2⟩
theorem own_retI (X : Stand p l e R s m args below meth c T locs cells slots) (hx : p.tables.exec = Jvm.exec) (hlk : meth.locks = false) (hret : meth.sig.returnType = some .int) {pc : Nat} {Ls : Array Slot} {z : Int32} {rest : List Value} (hd : decode c.code pc = .ok (.ireturn, 1))
    (hQ : Q (some (.int z)) T.heap locs) (h1 : cells ≤ kc) (h2 : slots ≤ ks) : own_G p e below s Q kc ks T (mkF m pc Ls (.int z :: rest)) := by
  refine own_out X hlk (v := some (.int z)) (fun h => by rw [hret] at h; cases h) (fun fs hl => ?_) hQ h1 h2
  have hm' : T.vm.method? m = some meth := X.method'
  have hn : narrow .int (.int z) = .int z := rfl
  show Steps p.tables e below (T.setTop { method := m, pc := pc, locals := Ls, stack := _ :: rest, locked := none }) _
  jvm_step X.here [X.here.top, hx, hd, hm', hret, hn]
  first | (intro acts; rw [hl _ acts rfl rfl rfl]) | rw [hl _ _ rfl rfl rfl]
  exact Steps.refl _
theorem own_retZ (X : Stand p l e R s m args below meth c T locs cells slots) (hx : p.tables.exec = Jvm.exec) (hlk : meth.locks = false) (hret : meth.sig.returnType = some .boolean) {pc : Nat} {Ls : Array Slot} {z : Int32} {rest : List Value} (hd : decode c.code pc = .ok (.ireturn, 1))
    (hQ : Q (some (.int (z &&& 1))) T.heap locs) (h1 : cells ≤ kc) (h2 : slots ≤ ks) : own_G p e below s Q kc ks T (mkF m pc Ls (.int z :: rest)) :=
  own_out X hlk (v := some (.int (z &&& 1))) (fun h => by rw [hret] at h; cases h) (fun fs hl => retN X hx (t := .boolean) hret (by simp) hd hl) hQ h1 h2
theorem own_retJ (X : Stand p l e R s m args below meth c T locs cells slots) (hx : p.tables.exec = Jvm.exec) (hlk : meth.locks = false) (hret : meth.sig.returnType = some .long) {pc : Nat} {Ls : Array Slot} {z : Int64} (hd : decode c.code pc = .ok (.lreturn, 1))
    (hQ : Q (some (.long z)) T.heap locs) (h1 : cells ≤ kc) (h2 : slots ≤ ks) : own_G p e below s Q kc ks T (mkF m pc Ls [.long z]) :=
  own_out X hlk (v := some (.long z)) (fun h => by rw [hret] at h; cases h) (fun fs hl => X.lreturnOut hx hret hd hl) hQ h1 h2
theorem own_retA (X : Stand p l e R s m args below meth c T locs cells slots) (hx : p.tables.exec = Jvm.exec) (hlk : meth.locks = false) {t : FieldType} (hret : meth.sig.returnType = some t) (ht : t.isReference = true) {pc : Nat} {Ls : Array Slot} {z : Value} (hz : z.isRef = true) (hd : decode c.code pc = .ok (.areturn, 1))
    (hQ : Q (some z) T.heap locs) (h1 : cells ≤ kc) (h2 : slots ≤ ks) : own_G p e below s Q kc ks T (mkF m pc Ls [z]) :=
  own_out X hlk (v := some z) (fun h => by rw [hret] at h; cases h) (fun fs hl => X.areturnOut hx hz hret ht hd hl) hQ h1 h2
theorem own_retV (X : Stand p l e R s m args below meth c T locs cells slots) (hx : p.tables.exec = Jvm.exec) (hlk : meth.locks = false) (hret : meth.sig.returnType = none) {pc : Nat} {Ls : Array Slot} (hd : decode c.code pc = .ok (.return_, 1))
    (hQ : Q none T.heap locs) (h1 : cells ≤ kc) (h2 : slots ≤ ks) : own_G p e below s Q kc ks T (mkF m pc Ls []) :=
  own_out X hlk (v := none) (fun _ => rfl) (fun fs hl => X.returnOut hx hret hd hl) hQ h1 h2
/-- a method's contract at one heap and one row of arguments -/
def own_C (l : Launch) (Z : State) (y : MethodName) (bytes : ByteArray) (mx : Nat) (ret : Option FieldType) (ws : List Jvm.Cond) (rm : Room) (as : Array Value) (h0 : Heap) (Q : Option Value → Heap → List Loc → Prop) : Prop :=
  MetFree l y (head1 (Jvm.Cond.code y bytes mx ret :: ws) rm) (fun a U => a = as ∧ Z.Warmed39 U.vm ∧ U.heap = h0) (fun _ _ _ _ _ => True) (fun _ U o U' => ∃ v L, o = .returned v ∧ Q v U'.heap L ∧ FrameEnd U o U' L rm.cells rm.slots)
theorem own_met {y : MethodName} {bytes : ByteArray} {mx : Nat} {ret : Option FieldType} {ws : List Jvm.Cond} {rm : Room} {as : Array Value} {h0 : Heap} (hp : plainFor y = true) (L0 : Array Slot) (hef : ∀ m, entryFrame m as mx = mkF m 0 L0 [])
    (body : ∀ (p : Program) (e : Env) (s : State) (m : MethodId) (below : List Frame) (meth : Method) (c : Code) (s₁ : State), p.tables.exec = Jvm.exec → c.code = bytes → c.maxLocals = mx → s.vm.findClass y.cls = some m.cls → meth.sig.returnType = ret → meth.locks = false → Z.Warmed39 s.vm → meth.name = y.name →
      Stand p l e rm s m as below meth c s₁ [] 0 0 → s₁.heap = h0 → own_G p e below s Q rm.cells rm.slots s₁ (mkF m 0 L0 [])) :
    own_C l Z y bytes mx ret ws rm as h0 Q := by
  refine MetFree.of_bodySF hp hisR ?_
  intro p e s m args below meth c s₁ Bd hml0 hP hK
  obtain ⟨rfl, hZ, hh⟩ := hP
  have hown : s.vm.findClass y.cls = some m.cls := findClass_of_methodNamed Bd.named
  have hnm := (name_of_methodNamed Bd.named Bd.method).1
  have X0 : Stand p l e rm s m args below meth c s₁ [] 0 0 := Stand.of_body Bd
  have e0 : s₁.heap = h0 := by rw [← hh, Bd.state]; rfl
  obtain ⟨t, o, h1, h2⟩ := body p e s m below meth c s₁ Bd.exec Bd.bytes hml0 hown Bd.returns Bd.notSynchronized hZ hnm X0 e0
  exact ⟨t, o, castTop (hef m) h1, h2⟩
/-- a static call by the callee's contract -/
theorem own_callS (X : Stand p l e R s m args below meth c T locs cells slots) (hx : p.tables.exec = Jvm.exec) (hZ : Z.Warmed39 s.vm) {own : String} {index : Nat} {y : MethodName} {bytes : ByteArray} {mx : Nat} {ret : Option FieldType} {rm : Room} {Qc : Option Value → Heap → List Loc → Prop}
    (hown : s.vm.findClass own = some m.cls) (w1 : (Jvm.Cond.methodLink own index y).before a0 Z = true) (w2 : (Jvm.Cond.static y).before a0 Z = true) (w3 : (Jvm.Cond.initialized y.cls).before a0 Z = true) (w4 : (Jvm.Cond.code y bytes mx ret).before a0 Z = true) (hy : y.cls ≠ "java/lang/invoke/MethodHandle" ∧ y.cls ≠ "java/lang/invoke/VarHandle")
    (eT : T.heap = h) (argsL rest : List Value) (hM : own_C l Z y bytes mx ret [] rm argsL.toArray h Qc) (W : Nat) (hf : rm.frames + 1 ≤ R.frames) (hlo : W + (mx + 11) + rm.locals ≤ R.locals) (hW : (rest.map fun v => v.category).sum ≤ W) (hc : cells + rm.cells ≤ R.cells) (hs : slots + rm.slots ≤ R.slots)
    {pc : Nat} {Ls : Array Slot} {S : List Value} (hsize : Ls.size = c.maxLocals) (hlen : ∀ sig, parseMethodDescriptor y.desc = some sig → argsL.length = sig.parameters.length) (hS : S = argsL.reverse ++ rest) (hd : decode c.code pc = .ok (.invokestatic index, 3))
    (k : ∀ (T' : State) (v : Option Value) (L : List Loc), Stand p l e R s m args below meth c T' (locs ++ L) (cells + rm.cells) (slots + rm.slots) → Qc v T'.heap L → own_G p e below s Q kc ks T' (mkF m (pc + 3) Ls (v.toList ++ rest))) :
    own_G p e below s Q kc ks T (mkF m pc Ls S) := by
  obtain ⟨v, _, ⟨T', L', k', n'⟩, -, X', ⟨L, hQ, q1, q2, q3⟩, st⟩ := Jvm.LawKit.callS X hx (y := y) hown (mvT hZ w1) (mvT hZ w2) (mvT hZ w3) (mvT hZ w4) hy (backOf (W := W) hM hZ w4 w3 hf hlo) (g := mkF m pc Ls S) rfl hsize (argsL := argsL) (rest := rest) hlen hS (by show 2 * 0 + _ ≤ _; omega) hd (fun _ _ => ⟨rfl, eT, hc, hs⟩)
  dsimp only [Pt.U, Pt.locs, Pt.cells, Pt.slots] at X' q1 q2 q3 st hQ
  subst q1 q2 q3
  exact own_go _ st (k T' v L X' hQ)
/-- what a pure method's end is: this value, the heap as it was, no place written -/
def own_P (r : Value) (h0 : Heap) (v : Option Value) (h : Heap) (L : List Loc) : Prop := v = some r ∧ h = h0 ∧ L = []
/-- a static call of a pure method -/
theorem own_callP (X : Stand p l e R s m args below meth c T locs cells slots) (hx : p.tables.exec = Jvm.exec) (hZ : Z.Warmed39 s.vm) {own : String} {index : Nat} {y : MethodName} {bytes : ByteArray} {mx : Nat} {ret : Option FieldType} {fr lo : Nat} {r : Value}
    (hown : s.vm.findClass own = some m.cls) (w1 : (Jvm.Cond.methodLink own index y).before a0 Z = true) (w2 : (Jvm.Cond.static y).before a0 Z = true) (w3 : (Jvm.Cond.initialized y.cls).before a0 Z = true) (w4 : (Jvm.Cond.code y bytes mx ret).before a0 Z = true) (hy : y.cls ≠ "java/lang/invoke/MethodHandle" ∧ y.cls ≠ "java/lang/invoke/VarHandle")
    (eT : T.heap = h) (argsL rest : List Value) (hM : own_C l Z y bytes mx ret [] { frames := fr, cells := 0, slots := 0, locals := lo } argsL.toArray h (own_P r h)) (W : Nat) (hf : fr + 1 ≤ R.frames) (hlo : W + (mx + 11) + lo ≤ R.locals) (hW : (rest.map fun v => v.category).sum ≤ W) (hc : cells ≤ R.cells) (hs : slots ≤ R.slots)
    {pc : Nat} {Ls : Array Slot} {S : List Value} (hsize : Ls.size = c.maxLocals) (hlen : ∀ sig, parseMethodDescriptor y.desc = some sig → argsL.length = sig.parameters.length) (hS : S = argsL.reverse ++ rest) (hd : decode c.code pc = .ok (.invokestatic index, 3))
    (k : ∀ (T' : State), Stand p l e R s m args below meth c T' locs cells slots → T'.heap = h → own_G p e below s Q kc ks T' (mkF m (pc + 3) Ls (r :: rest))) :
    own_G p e below s Q kc ks T (mkF m pc Ls S) := by
  refine own_callS X hx hZ hown w1 w2 w3 w4 hy eT argsL rest hM W hf hlo hW hc hs hsize hlen hS hd ?_
  rintro T' v L X' ⟨rfl, q2, rfl⟩
  rw [List.append_nil] at X'
  exact k T' X' q2
/-- a constructor's call -/
theorem own_callI (X : Stand p l e R s m args below meth c T locs cells slots) (hx : p.tables.exec = Jvm.exec) (hZ : Z.Warmed39 s.vm) {own : String} {index : Nat} {y : MethodName} {bytes : ByteArray} {mx : Nat} {rm : Room} {Qc : Option Value → Heap → List Loc → Prop} (hy1 : y.name = "<init>")
    (hown : s.vm.findClass own = some m.cls) (w1 : (Jvm.Cond.methodLink own index y).before a0 Z = true) (w2 : (Jvm.Cond.instanceMethod y).before a0 Z = true) (w3 : (Jvm.Cond.initialized y.cls).before a0 Z = true) (w4 : (Jvm.Cond.code y bytes mx none).before a0 Z = true) (hy : y.cls ≠ "java/lang/invoke/MethodHandle" ∧ y.cls ≠ "java/lang/invoke/VarHandle")
    (eT : T.heap = h) (a : Addr) (argsL rest : List Value) (hM : own_C l Z y bytes mx none [] rm (.ref a :: argsL).toArray h Qc) (W : Nat) (hf : rm.frames + 1 ≤ R.frames) (hlo : W + (mx + 11) + rm.locals ≤ R.locals) (hW : (rest.map fun v => v.category).sum ≤ W) (hc : cells + rm.cells ≤ R.cells) (hs : slots + rm.slots ≤ R.slots)
    {pc : Nat} {Ls : Array Slot} {S : List Value} (hsize : Ls.size = c.maxLocals) (hlen : ∀ sig, parseMethodDescriptor y.desc = some sig → argsL.length = sig.parameters.length) (hS : S = argsL.reverse ++ .ref a :: rest) (hd : decode c.code pc = .ok (.invokespecial index, 3))
    (k : ∀ (T' : State) (v : Option Value) (L : List Loc), Stand p l e R s m args below meth c T' (locs ++ L) (cells + rm.cells) (slots + rm.slots) → Qc v T'.heap L → own_G p e below s Q kc ks T' (mkF m (pc + 3) Ls (v.toList ++ rest))) :
    own_G p e below s Q kc ks T (mkF m pc Ls S) := by
  obtain ⟨v, _, ⟨T', L', k', n'⟩, -, X', ⟨L, hQ, q1, q2, q3⟩, st⟩ := X.specialBack hx (y := y) hy1 hown (mvT hZ w1) (mvT hZ w2) (mvT hZ w4) hy (backOf (W := W) hM hZ w4 w3 hf hlo) (g := mkF m pc Ls S) rfl hsize (Steps.refl _) (a := a) (argsL := argsL) (rest := rest) hlen hS (by show 2 * 0 + _ ≤ _; omega) hd (fun _ _ => ⟨rfl, eT, hc, hs⟩)
  dsimp only [Pt.U, Pt.locs, Pt.cells, Pt.slots] at X' q1 q2 q3 st hQ
  subst q1 q2 q3
  exact own_go _ (fun t kt => st.trans kt) (k T' v L X' hQ)
/-- an instance method's call -/
theorem own_callV (X : Stand p l e R s m args below meth c T locs cells slots) (hx : p.tables.exec = Jvm.exec) (hZ : Z.Warmed39 s.vm) {own C : String} {index : Nat} {y : MethodName} {bytes : ByteArray} {mx : Nat} {ret : Option FieldType} {rm : Room} {Qc : Option Value → Heap → List Loc → Prop}
    (hown : s.vm.findClass own = some m.cls) (w1 : (Jvm.Cond.methodLink own index y).before a0 Z = true) (w5 : (Jvm.Cond.declares y).before a0 Z = true) (w6 : (Jvm.Cond.selects C y y).before a0 Z = true) (w2 : (Jvm.Cond.instanceMethod y).before a0 Z = true) (w3 : (Jvm.Cond.initialized y.cls).before a0 Z = true) (w4 : (Jvm.Cond.code y bytes mx ret).before a0 Z = true) (hy : y.cls ≠ "java/lang/invoke/MethodHandle" ∧ y.cls ≠ "java/lang/invoke/VarHandle")
    (eT : T.heap = h) {a : Addr} (E : Exa Z h a C) (argsL rest : List Value) (hM : own_C l Z y bytes mx ret [] rm (.ref a :: argsL).toArray h Qc) (W : Nat) (hf : rm.frames + 1 ≤ R.frames) (hlo : W + (mx + 11) + rm.locals ≤ R.locals) (hW : (rest.map fun v => v.category).sum ≤ W) (hc : cells + rm.cells ≤ R.cells) (hs : slots + rm.slots ≤ R.slots)
    {pc : Nat} {Ls : Array Slot} {S : List Value} (hsize : Ls.size = c.maxLocals) (hlen : ∀ sig, parseMethodDescriptor y.desc = some sig → argsL.length = sig.parameters.length) (hS : S = argsL.reverse ++ .ref a :: rest) (hd : decode c.code pc = .ok (.invokevirtual index, 3))
    (k : ∀ (T' : State) (v : Option Value) (L : List Loc), Stand p l e R s m args below meth c T' (locs ++ L) (cells + rm.cells) (slots + rm.slots) → Qc v T'.heap L → own_G p e below s Q kc ks T' (mkF m (pc + 3) Ls (v.toList ++ rest))) :
    own_G p e below s Q kc ks T (mkF m pc Ls S) := by
  obtain ⟨cq, kq, qa, qb, qc⟩ := isOf hZ eT E
  obtain ⟨v, _, ⟨T', L', k', n'⟩, -, X', ⟨L, hQ, q1, q2, q3⟩, st⟩ := X.virtualBack hx (y := y) (z := y) hown (mvT hZ w1) (mvT hZ w5) (notFace_of_selects (args := #[]) (mvT hZ w6)) (mvT hZ w6) (mvT hZ w2) hy (backOf (W := W) hM hZ w4 w3 hf hlo) qa qc (g := mkF m pc Ls S) rfl hsize (Steps.refl _) (argsL := argsL) (rest := rest) hlen hS (by show 2 * 0 + _ ≤ _; omega) hd (fun _ _ => ⟨rfl, eT, hc, hs⟩)
  dsimp only [Pt.U, Pt.locs, Pt.cells, Pt.slots] at X' q1 q2 q3 st hQ
  subst q1 q2 q3
  exact own_go _ (fun t kt => st.trans kt) (k T' v L X' hQ)
end OwnKit
section OwnHeap
variable {p : Program} {l : Launch} {e : Env} {R : Room} {s : State} {m : MethodId} {args : Array Value} {below : List Frame} {meth : Method} {c : Code} {T T' : State} {locs : List Loc} {cells slots n0 : Nat} {Q : Option Value → Heap → List Loc → Prop} {kc ks : Nat} {g : JFrame} {Z : State} {a0 : Array Value} {h h' h0 : Heap} {a b : Addr} {vs : List Value} {ty : FieldType} {v w : Value} {sl pc : Nat} {Ls : Array Slot} {rest : List Value}
/-- the run stands here, and whatever was written lies in cells at or above n0 -/
def own_S (p : Program) (l : Launch) (e : Env) (R : Room) (s : State) (m : MethodId) (args : Array Value) (below : List Frame) (meth : Method) (c : Code) (n0 : Nat) (T : State) (cells slots : Nat) : Prop := ∃ locs, Stand p l e R s m args below meth c T locs cells slots ∧ Fr n0 locs
theorem own_S.of (X : Stand p l e R s m args below meth c T [] cells slots) (n0 : Nat) : own_S p l e R s m args below meth c n0 T cells slots := ⟨[], X, Fr.nil n0⟩
theorem own_S.here (X : own_S p l e R s m args below meth c n0 T cells slots) : At T m c below := X.elim fun _ q => q.1.here
theorem own_S.ldcInt (X : own_S p l e R s m args below meth c n0 T cells slots) (hx : p.tables.exec = Jvm.exec) {own : String} {index : Nat} {v : Int32} (hown : s.vm.findClass own = some m.cls)
    (hc : (Jvm.Cond.constant own index v).before args s = true) {g : JFrame} (hg : g.method = m) (hd : decode c.code g.pc = .ok (.ldc index, 2)) (t : State) (k : Steps p.tables e below (T.setTop { g with pc := g.pc + 2, stack := .int v :: g.stack }) t) : Steps p.tables e below (T.setTop g) t :=
  X.elim fun _ q => q.1.ldcInt hx hown hc hg hd t k
theorem own_S.ldcwInt (X : own_S p l e R s m args below meth c n0 T cells slots) (hx : p.tables.exec = Jvm.exec) {own : String} {index : Nat} {v : Int32} (hown : s.vm.findClass own = some m.cls)
    (hc : (Jvm.Cond.constant own index v).before args s = true) {g : JFrame} (hg : g.method = m) (hd : decode c.code g.pc = .ok (.ldc_w index, 3)) (t : State) (k : Steps p.tables e below (T.setTop { g with pc := g.pc + 3, stack := .int v :: g.stack }) t) : Steps p.tables e below (T.setTop g) t :=
  X.elim fun _ q => q.1.ldcwInt hx hown hc hg hd t k
theorem own_S.ldc2Long (X : own_S p l e R s m args below meth c n0 T cells slots) (hx : p.tables.exec = Jvm.exec) {own : String} {index : Nat} {v : Int64} (hown : s.vm.findClass own = some m.cls)
    (hc : (Jvm.Cond.constantLong own index v).before args s = true) {g : JFrame} (hg : g.method = m) (hd : decode c.code g.pc = .ok (.ldc2_w index, 3)) (t : State) (k : Steps p.tables e below (T.setTop { g with pc := g.pc + 3, stack := .long v :: g.stack }) t) : Steps p.tables e below (T.setTop g) t :=
  X.elim fun _ q => q.1.ldc2Long hx hown hc hg hd t k
theorem own_S.more (X : own_S p l e R s m args below meth c n0 T cells slots) {cells' slots' : Nat} (h1 : cells ≤ cells') (h2 : slots ≤ slots') : own_S p l e R s m args below meth c n0 T cells' slots' := X.elim fun L q => ⟨L, q.1.more h1 h2, q.2⟩
/-- what a contract with a heap says: the places written are new, and P -/
def own_Q (n0 : Nat) (P : Option Value → Heap → Prop) (v : Option Value) (h : Heap) (L : List Loc) : Prop := Fr n0 L ∧ P v h
theorem own_S.retI {P : Option Value → Heap → Prop} (X : own_S p l e R s m args below meth c n0 T cells slots) (hx : p.tables.exec = Jvm.exec) (hlk : meth.locks = false) (hret : meth.sig.returnType = some .int) {z : Int32} (hd : decode c.code pc = .ok (.ireturn, 1))
    (hQ : P (some (.int z)) T.heap) (h1 : cells ≤ kc) (h2 : slots ≤ ks) : own_G p e below s (own_Q n0 P) kc ks T (mkF m pc Ls (.int z :: rest)) := X.elim fun L q => own_retI q.1 hx hlk hret hd ⟨q.2, hQ⟩ h1 h2
theorem own_S.retZ {P : Option Value → Heap → Prop} (X : own_S p l e R s m args below meth c n0 T cells slots) (hx : p.tables.exec = Jvm.exec) (hlk : meth.locks = false) (hret : meth.sig.returnType = some .boolean) {z : Int32} (hd : decode c.code pc = .ok (.ireturn, 1))
    (hQ : P (some (.int (z &&& 1))) T.heap) (h1 : cells ≤ kc) (h2 : slots ≤ ks) : own_G p e below s (own_Q n0 P) kc ks T (mkF m pc Ls (.int z :: rest)) := X.elim fun L q => own_retZ q.1 hx hlk hret hd ⟨q.2, hQ⟩ h1 h2
theorem own_S.retJ {P : Option Value → Heap → Prop} (X : own_S p l e R s m args below meth c n0 T cells slots) (hx : p.tables.exec = Jvm.exec) (hlk : meth.locks = false) (hret : meth.sig.returnType = some .long) {z : Int64} (hd : decode c.code pc = .ok (.lreturn, 1))
    (hQ : P (some (.long z)) T.heap) (h1 : cells ≤ kc) (h2 : slots ≤ ks) : own_G p e below s (own_Q n0 P) kc ks T (mkF m pc Ls [.long z]) := X.elim fun L q => own_retJ q.1 hx hlk hret hd ⟨q.2, hQ⟩ h1 h2
theorem own_S.retA {P : Option Value → Heap → Prop} (X : own_S p l e R s m args below meth c n0 T cells slots) (hx : p.tables.exec = Jvm.exec) (hlk : meth.locks = false) {t : FieldType} (hret : meth.sig.returnType = some t) (ht : t.isReference = true) {z : Value} (hz : z.isRef = true) (hd : decode c.code pc = .ok (.areturn, 1))
    (hQ : P (some z) T.heap) (h1 : cells ≤ kc) (h2 : slots ≤ ks) : own_G p e below s (own_Q n0 P) kc ks T (mkF m pc Ls [z]) := X.elim fun L q => own_retA q.1 hx hlk hret ht hz hd ⟨q.2, hQ⟩ h1 h2
theorem own_S.retV {P : Option Value → Heap → Prop} (X : own_S p l e R s m args below meth c n0 T cells slots) (hx : p.tables.exec = Jvm.exec) (hlk : meth.locks = false) (hret : meth.sig.returnType = none) (hd : decode c.code pc = .ok (.return_, 1))
    (hQ : P none T.heap) (h1 : cells ≤ kc) (h2 : slots ≤ ks) : own_G p e below s (own_Q n0 P) kc ks T (mkF m pc Ls []) := X.elim fun L q => own_retV q.1 hx hlk hret hd ⟨q.2, hQ⟩ h1 h2
/-- fields -/
theorem own_S.getF (X : own_S p l e R s m args below meth c n0 T cells slots) (hx : p.tables.exec = Jvm.exec) (hZ : Z.Warmed39 s.vm) {own C n d : String} {index : Nat} (hown : s.vm.findClass own = some m.cls) (w1 : (Jvm.Cond.fieldLink own index C n d).before a0 Z = true) (eT : T.heap = h) (F : Fld Z h a C n d v) (hd : decode c.code pc = .ok (.getfield index, 3))
    (k : ∀ T', own_S p l e R s m args below meth c n0 T' cells slots → T'.heap = h → own_G p e below s Q kc ks T' (mkF m (pc + 3) Ls (v :: rest))) : own_G p e below s Q kc ks T (mkF m pc Ls (.ref a :: rest)) := by
  obtain ⟨locs, Y, N⟩ := X
  obtain ⟨T', Y', e', st⟩ := Jvm.RoadKit.getF Y hx hZ hown (host := "") (Or.inl w1) Via.refl eT F (g := mkF m pc Ls (.ref a :: rest)) rfl rfl hd
  exact own_go _ st (k T' ⟨locs, Y', N⟩ e')
theorem own_S.putF (X : own_S p l e R s m args below meth c n0 T cells slots) (hx : p.tables.exec = Jvm.exec) (hZ : Z.Warmed39 s.vm) {own C n d : String} {index kk : Nat} {ty : FieldType} (hown : s.vm.findClass own = some m.cls) (w1 : (Jvm.Cond.fieldLink own index C n d).before a0 Z = true) (eT : T.heap = h) {old : Value} (F : Fld Z h a C n d old) (E : Exa Z h a C) (g0 : n0 ≤ a)
    (L : (Jvm.Cond.lays C C n d).before a0 Z = true ∨ ((Jvm.Cond.laysFinal C C n d).before a0 Z = true ∧ own = C ∧ meth.name = "<init>")) (wi : (Jvm.Cond.instantiable C kk).before a0 Z = true) (hty : parseFieldDescriptor d = some ty) (hn : narrow ty v = v) (hf : fits ty v = true) (hd : decode c.code pc = .ok (.putfield index, 3))
    (k : ∀ T' h', own_S p l e R s m args below meth c n0 T' cells slots → T'.heap = h' → Wr h h' a (Jvm.RoadKit.slotOf Z C n d) v → own_G p e below s Q kc ks T' (mkF m (pc + 3) Ls rest)) : own_G p e below s Q kc ks T (mkF m pc Ls (v :: .ref a :: rest)) := by
  obtain ⟨locs, Y, N⟩ := X
  obtain ⟨T', h', Y', e', W, st⟩ := Jvm.RoadKit.putF Y hx hZ hown (host := "") (Or.inl w1) Via.refl eT F E L wi hty hn hf (g := mkF m pc Ls (v :: .ref a :: rest)) rfl rfl hd
  exact own_go _ st (k T' h' ⟨_, Y', Fr.snoc Y' N g0⟩ e' W)
theorem own_S.initO (X : own_S p l e R s m args below meth c n0 T cells slots) (hx : p.tables.exec = Jvm.exec) (hZ : Z.Warmed39 s.vm) {own : String} {idx : Nat} (hown : s.vm.findClass own = some m.cls) (w1 : (Jvm.Cond.methodLink own idx Lib.objectInit).before a0 Z = true) (w2 : (Jvm.Cond.instanceMethod Lib.objectInit).before a0 Z = true)
    (w3 : (Jvm.Cond.code Lib.objectInit ⟨#[0xb1]⟩ 1 none).before a0 Z = true) (eT : T.heap = h) (hsize : Ls.size = c.maxLocals) (hd : decode c.code pc = .ok (.invokespecial idx, 3)) (hf : 1 ≤ R.frames) (W : Nat) (hW : (rest.map fun v => v.category).sum ≤ W) (hl : W + 12 ≤ R.locals)
    (k : ∀ T', own_S p l e R s m args below meth c n0 T' cells slots → T'.heap = h → own_G p e below s Q kc ks T' (mkF m (pc + 3) Ls rest)) : own_G p e below s Q kc ks T (mkF m pc Ls (.ref a :: rest)) := by
  obtain ⟨locs, Y, N⟩ := X
  obtain ⟨T', Y', e', st⟩ := Jvm.RoadKit.initO Y hx hZ hown w1 w2 w3 eT (g := mkF m pc Ls (.ref a :: rest)) rfl hsize (a := a) (rest := rest) rfl hd hf (W := W) (by show 2 * 0 + _ ≤ _; omega) hl
  exact own_go _ st (k T' ⟨locs, Y', N⟩ e')
/-- new -/
theorem own_S.newO (X : own_S p l e R s m args below meth c n0 T cells slots) (hx : p.tables.exec = Jvm.exec) (hZ : Z.Warmed39 s.vm) {own C : String} {index n : Nat} (hown : s.vm.findClass own = some m.cls) (w1 : (Jvm.Cond.classLink own index C).before a0 Z = true) (wi : (Jvm.Cond.instantiable C n).before a0 Z = true) (wz : (Jvm.Cond.initialized C).before a0 Z = true) (eT : T.heap = h)
    (hd : decode c.code pc = .ok (.new index, 3)) (hc : cells + 1 ≤ R.cells) (hl : slots + n ≤ R.slots)
    (k : ∀ T' h' (b : Addr), own_S p l e R s m args below meth c n0 T' (cells + 1) (slots + n) → T'.heap = h' → b = h.size → Ext h h' → Exa Z h' b C → (∀ {O nm d : String} {ty : FieldType}, Laid Z a0 C O nm d → parseFieldDescriptor d = some ty → Fld Z h' b O nm d (defaultValue ty)) → own_G p e below s Q kc ks T' (mkF m (pc + 3) Ls (.ref b :: rest))) :
    own_G p e below s Q kc ks T (mkF m pc Ls rest) := by
  obtain ⟨locs, Y, N⟩ := X
  obtain ⟨T', h', Y', e', E, A, D, -, st⟩ := Jvm.RoadKit.newO Y hx hZ hown w1 wi wz eT (g := mkF m pc Ls rest) rfl hd hc hl
  exact own_go _ st (k T' h' h.size ⟨_, Y', N⟩ e' rfl E A D)
/-- an array, by the list of what it holds -/
def own_A (Z : State) (h : Heap) (ty : FieldType) (a : Addr) (vs : List Value) : Prop := ∃ cl : Cell, Arr Z h a cl ty ∧ cl.slots = vs.toArray ∧ vs.length < 2 ^ 31
theorem own_A.lt (A : own_A Z h ty a vs) : a < h.size := A.elim fun _ q => q.1.lt
theorem own_A.ext (A : own_A Z h ty a vs) (E : Ext h h') : own_A Z h' ty a vs := A.elim fun cl q => ⟨cl, q.1.ext E, q.2⟩
theorem own_A.other (A : own_A Z h ty b vs) (W : Wr h h' a sl v) (q : b ≠ a) : own_A Z h' ty b vs := A.elim fun cl r => ⟨cl, r.1.other W q, r.2⟩
theorem own_A.keep {ws : List Addr} (A : own_A Z h ty a vs) (K : Keep h h' ws) (q : a ∉ ws) : own_A Z h' ty a vs := A.elim fun cl r => ⟨cl, ⟨K.2.1 a cl r.1.1 q, r.1.2⟩, r.2⟩
theorem own_A.set (A : own_A Z h ty a vs) {i : Nat} (W : Wr h h' a i v) : own_A Z h' ty a (vs.set i v) := by
  obtain ⟨cl, A, q1, q2⟩ := A
  refine ⟨_, A.same W, ?_, by rw [List.length_set]; exact q2⟩
  simp [Cell.setSlot, q1]
theorem own_A.len (A : own_A Z h ty a vs) : vs.length < 2 ^ 31 := A.elim fun _ q => q.2.2
theorem own_clamp {j : Int32} {i : Nat} (hj : j.toInt = i) : j.toNatClampNeg = i ∧ ¬ j < 0 := by
  refine ⟨by simp [Int32.toNatClampNeg, hj], ?_⟩
  rw [Int32.lt_iff_toInt_lt, Int32.toInt_zero]; omega
theorem own_in {cl : Cell} (q1 : cl.slots = vs.toArray) {j : Int32} {i : Nat} (hj : j.toInt = i) (hi : i < vs.length) : ¬ (j < 0 ∨ cl.slots.size ≤ j.toNatClampNeg) := by
  obtain ⟨c1, c2⟩ := own_clamp hj
  rw [q1, c1]; intro r
  rcases r with r | r
  · exact c2 r
  · simp at r; omega
theorem own_lt_of {i : Nat} (hv : vs[i]? = some v) : i < vs.length := (List.getElem?_eq_some_iff.mp hv).1
theorem own_S.ldJ (X : own_S p l e R s m args below meth c n0 T cells slots) (hx : p.tables.exec = Jvm.exec) (hZ : Z.Warmed39 s.vm) (eT : T.heap = h) (A : own_A Z h .long a vs) {j : Int32} (i : Nat) (hj : j.toInt = i) (hv : vs[i]? = some v) (hd : decode c.code pc = .ok (.laload, 1))
    (k : own_G p e below s Q kc ks T (mkF m (pc + 1) Ls (v :: rest))) : own_G p e below s Q kc ks T (mkF m pc Ls (.int j :: .ref a :: rest)) := by
  obtain ⟨locs, Y, N⟩ := X
  obtain ⟨cl, A, q1, q2⟩ := A
  refine own_go _ (fun t kt => Y.laload hx (j := j) (v := v) (by rw [eT]; exact A.1) (State.isArrayOf_alike hZ.alike A.2.1) A.2.2 (own_in q1 hj (own_lt_of hv)) (by rw [(own_clamp hj).1, q1]; simpa using hv) (g := mkF m pc Ls (.int j :: .ref a :: rest)) rfl rfl hd t kt) k
theorem own_S.ldI (X : own_S p l e R s m args below meth c n0 T cells slots) (hx : p.tables.exec = Jvm.exec) (hZ : Z.Warmed39 s.vm) (eT : T.heap = h) (A : own_A Z h .int a vs) {j : Int32} (i : Nat) (hj : j.toInt = i) (hv : vs[i]? = some v) (hd : decode c.code pc = .ok (.iaload, 1))
    (k : own_G p e below s Q kc ks T (mkF m (pc + 1) Ls (v :: rest))) : own_G p e below s Q kc ks T (mkF m pc Ls (.int j :: .ref a :: rest)) := by
  obtain ⟨locs, Y, N⟩ := X
  obtain ⟨cl, A, q1, q2⟩ := A
  refine own_go _ (fun t kt => Y.iaload hx (j := j) (v := v) (by rw [eT]; exact A.1) (State.isArrayOf_alike hZ.alike A.2.1) A.2.2 (own_in q1 hj (own_lt_of hv)) (by rw [(own_clamp hj).1, q1]; simpa using hv) (g := mkF m pc Ls (.int j :: .ref a :: rest)) rfl rfl hd t kt) k
theorem own_S.ldB (X : own_S p l e R s m args below meth c n0 T cells slots) (hx : p.tables.exec = Jvm.exec) (hZ : Z.Warmed39 s.vm) (eT : T.heap = h) (A : own_A Z h .byte a vs) {j : Int32} (i : Nat) (hj : j.toInt = i) (hv : vs[i]? = some v) (hd : decode c.code pc = .ok (.baload, 1))
    (k : own_G p e below s Q kc ks T (mkF m (pc + 1) Ls (v :: rest))) : own_G p e below s Q kc ks T (mkF m pc Ls (.int j :: .ref a :: rest)) := by
  obtain ⟨locs, Y, N⟩ := X
  obtain ⟨cl, A, q1, q2⟩ := A
  refine own_go _ (fun t kt => Y.baloadBytes hx (j := j) (v := v) (by rw [eT]; exact A.1) (State.isArrayOf_alike hZ.alike A.2.1) A.2.2 (own_in q1 hj (own_lt_of hv)) (by rw [(own_clamp hj).1, q1]; simpa using hv) (g := mkF m pc Ls (.int j :: .ref a :: rest)) rfl rfl hd t kt) k
theorem own_S.alen (X : own_S p l e R s m args below meth c n0 T cells slots) (hx : p.tables.exec = Jvm.exec) (hZ : Z.Warmed39 s.vm) (eT : T.heap = h) (A : own_A Z h ty a vs) (hd : decode c.code pc = .ok (.arraylength, 1))
    (k : own_G p e below s Q kc ks T (mkF m (pc + 1) Ls (.int (Int32.ofNat vs.length) :: rest))) : own_G p e below s Q kc ks T (mkF m pc Ls (.ref a :: rest)) := by
  obtain ⟨locs, Y, N⟩ := X
  obtain ⟨cl, A, q1, q2⟩ := A
  have q : cl.slots.size.toInt32 = Int32.ofNat vs.length := by rw [q1]; simp
  refine own_go _ (fun t kt => Y.arraylength hx (by rw [eT]; exact A.1) (State.isArrayOf_alike hZ.alike A.2.1) (g := mkF m pc Ls (.ref a :: rest)) rfl rfl hd t (by rw [q]; exact kt)) k
theorem own_S.stJ (X : own_S p l e R s m args below meth c n0 T cells slots) (hx : p.tables.exec = Jvm.exec) (hZ : Z.Warmed39 s.vm) (eT : T.heap = h) (A : own_A Z h .long a vs) (g0 : n0 ≤ a) {j : Int32} {x : Int64} (i : Nat) (hj : j.toInt = i) (hi : i < vs.length) (hd : decode c.code pc = .ok (.lastore, 1))
    (k : ∀ T' h', own_S p l e R s m args below meth c n0 T' cells slots → T'.heap = h' → Wr h h' a i (.long x) → own_A Z h' .long a (vs.set i (.long x)) → own_G p e below s Q kc ks T' (mkF m (pc + 1) Ls rest)) : own_G p e below s Q kc ks T (mkF m pc Ls (.long x :: .int j :: .ref a :: rest)) := by
  obtain ⟨locs, Y, N⟩ := X
  have A' := A
  obtain ⟨cl, A, q1, q2⟩ := A
  obtain ⟨T', h', Y', e', W, st⟩ := Jvm.RoadKit.stJ Y hx hZ eT A (j := j) (x := x) (own_in q1 hj hi) (g := mkF m pc Ls (.long x :: .int j :: .ref a :: rest)) rfl rfl hd
  rw [(own_clamp hj).1] at W
  exact own_go _ st (k T' h' ⟨_, Y', Fr.snoc Y' N g0⟩ e' W (A'.set W))
theorem own_S.stI (X : own_S p l e R s m args below meth c n0 T cells slots) (hx : p.tables.exec = Jvm.exec) (hZ : Z.Warmed39 s.vm) (eT : T.heap = h) (A : own_A Z h .int a vs) (g0 : n0 ≤ a) {j : Int32} {x : Int32} (i : Nat) (hj : j.toInt = i) (hi : i < vs.length) (hd : decode c.code pc = .ok (.iastore, 1))
    (k : ∀ T' h', own_S p l e R s m args below meth c n0 T' cells slots → T'.heap = h' → Wr h h' a i (.int x) → own_A Z h' .int a (vs.set i (.int x)) → own_G p e below s Q kc ks T' (mkF m (pc + 1) Ls rest)) : own_G p e below s Q kc ks T (mkF m pc Ls (.int x :: .int j :: .ref a :: rest)) := by
  obtain ⟨locs, Y, N⟩ := X
  have A' := A
  obtain ⟨cl, A, q1, q2⟩ := A
  obtain ⟨T', h', Y', e', W, st⟩ := Jvm.RoadKit.stI Y hx hZ eT A (j := j) (x := x) (own_in q1 hj hi) (g := mkF m pc Ls (.int x :: .int j :: .ref a :: rest)) rfl rfl hd
  rw [(own_clamp hj).1] at W
  exact own_go _ st (k T' h' ⟨_, Y', Fr.snoc Y' N g0⟩ e' W (A'.set W))
theorem own_S.stB (X : own_S p l e R s m args below meth c n0 T cells slots) (hx : p.tables.exec = Jvm.exec) (hZ : Z.Warmed39 s.vm) (eT : T.heap = h) (A : own_A Z h .byte a vs) (g0 : n0 ≤ a) {j : Int32} {x : Int32} (i : Nat) (hj : j.toInt = i) (hi : i < vs.length) (hd : decode c.code pc = .ok (.bastore, 1))
    (k : ∀ T' h', own_S p l e R s m args below meth c n0 T' cells slots → T'.heap = h' → Wr h h' a i (.int x.toInt8.toInt32) → own_A Z h' .byte a (vs.set i (.int x.toInt8.toInt32)) → own_G p e below s Q kc ks T' (mkF m (pc + 1) Ls rest)) : own_G p e below s Q kc ks T (mkF m pc Ls (.int x :: .int j :: .ref a :: rest)) := by
  obtain ⟨locs, Y, N⟩ := X
  have A' := A
  obtain ⟨cl, A, q1, q2⟩ := A
  obtain ⟨T', h', Y', e', W, st⟩ := Jvm.RoadKit.stB Y hx hZ eT A (j := j) (x := x) (own_in q1 hj hi) (g := mkF m pc Ls (.int x :: .int j :: .ref a :: rest)) rfl rfl hd
  rw [(own_clamp hj).1] at W
  exact own_go _ st (k T' h' ⟨_, Y', Fr.snoc Y' N g0⟩ e' W (A'.set W))
theorem own_S.stZ (X : own_S p l e R s m args below meth c n0 T cells slots) (hx : p.tables.exec = Jvm.exec) (hZ : Z.Warmed39 s.vm) (eT : T.heap = h) (A : own_A Z h .boolean a vs) (g0 : n0 ≤ a) {j : Int32} {x : Int32} (i : Nat) (hj : j.toInt = i) (hi : i < vs.length) (hd : decode c.code pc = .ok (.bastore, 1))
    (k : ∀ T' h', own_S p l e R s m args below meth c n0 T' cells slots → T'.heap = h' → Wr h h' a i (.int (x &&& 1)) → own_A Z h' .boolean a (vs.set i (.int (x &&& 1))) → own_G p e below s Q kc ks T' (mkF m (pc + 1) Ls rest)) : own_G p e below s Q kc ks T (mkF m pc Ls (.int x :: .int j :: .ref a :: rest)) := by
  obtain ⟨locs, Y, N⟩ := X
  have A' := A
  obtain ⟨cl, A, q1, q2⟩ := A
  obtain ⟨T', h', Y', e', W, st⟩ := Jvm.RoadKit.stZ Y hx hZ eT A (j := j) (x := x) (own_in q1 hj hi) (g := mkF m pc Ls (.int x :: .int j :: .ref a :: rest)) rfl rfl hd
  rw [(own_clamp hj).1] at W
  exact own_go _ st (k T' h' ⟨_, Y', Fr.snoc Y' N g0⟩ e' W (A'.set W))
theorem own_S.newP (X : own_S p l e R s m args below meth c n0 T cells slots) (hx : p.tables.exec = Jvm.exec) (hZ : Z.Warmed39 s.vm) {aty : ArrayType} (w1 : (Jvm.Cond.arrayClass (newarray.typeOf aty)).before a0 Z = true) (eT : T.heap = h) {j : Int32} (n : Nat) (hj : j.toInt = n) (hd : decode c.code pc = .ok (.newarray aty, 2)) (cap : Nat) (hn : n ≤ cap) (hb : cap * 8 ≤ 536870912) (hc : cells + 1 ≤ R.cells) (hl : slots + cap ≤ R.slots)
    (k : ∀ T' h' (b : Addr), own_S p l e R s m args below meth c n0 T' (cells + 1) (slots + cap) → T'.heap = h' → b = h.size → Ext h h' → own_A Z h' (newarray.typeOf aty) b (List.replicate n (defaultValue (newarray.typeOf aty))) → own_G p e below s Q kc ks T' (mkF m (pc + 2) Ls (.ref b :: rest))) :
    own_G p e below s Q kc ks T (mkF m pc Ls (.int j :: rest)) := by
  obtain ⟨locs, Y, N⟩ := X
  obtain ⟨c1, c2⟩ := own_clamp hj
  obtain ⟨T', h', cA, Y', e', E, A, st⟩ := Jvm.RoadKit.newP Y hx hZ w1 eT (g := mkF m pc Ls (.int j :: rest)) rfl hd rfl c2 (cap := cap) (by rw [c1]; exact hn) hb hc hl
  refine own_go _ st (k T' h' h.size ⟨_, Y', N⟩ e' rfl E ⟨_, A, ?_, ?_⟩)
  · simp [newA, c1]
  · rw [List.length_replicate]; omega
/-- calls -/
theorem own_S.callS (X : own_S p l e R s m args below meth c n0 T cells slots) (hx : p.tables.exec = Jvm.exec) (hZ : Z.Warmed39 s.vm) {own : String} {index : Nat} {y : MethodName} {bytes : ByteArray} {mx : Nat} {ret : Option FieldType} {rm : Room} {P : Option Value → Heap → Prop}
    (hown : s.vm.findClass own = some m.cls) (w1 : (Jvm.Cond.methodLink own index y).before a0 Z = true) (w2 : (Jvm.Cond.static y).before a0 Z = true) (w3 : (Jvm.Cond.initialized y.cls).before a0 Z = true) (w4 : (Jvm.Cond.code y bytes mx ret).before a0 Z = true) (hy : y.cls ≠ "java/lang/invoke/MethodHandle" ∧ y.cls ≠ "java/lang/invoke/VarHandle")
    (eT : T.heap = h) (argsL rest : List Value) (hM : own_C l Z y bytes mx ret [] rm argsL.toArray h (own_Q n0 P)) (W : Nat) (hf : rm.frames + 1 ≤ R.frames) (hlo : W + (mx + 11) + rm.locals ≤ R.locals) (hW : (rest.map fun v => v.category).sum ≤ W) (hc : cells + rm.cells ≤ R.cells) (hs : slots + rm.slots ≤ R.slots)
    {S : List Value} (hsize : Ls.size = c.maxLocals) (hlen : ∀ sig, parseMethodDescriptor y.desc = some sig → argsL.length = sig.parameters.length) (hS : S = argsL.reverse ++ rest) (hd : decode c.code pc = .ok (.invokestatic index, 3))
    (k : ∀ (T' : State) (v : Option Value), own_S p l e R s m args below meth c n0 T' (cells + rm.cells) (slots + rm.slots) → P v T'.heap → own_G p e below s Q kc ks T' (mkF m (pc + 3) Ls (v.toList ++ rest))) :
    own_G p e below s Q kc ks T (mkF m pc Ls S) := by
  obtain ⟨locs, Y, N⟩ := X
  exact own_callS Y hx hZ hown w1 w2 w3 w4 hy eT argsL rest hM W hf hlo hW hc hs hsize hlen hS hd fun T' v L Y' hq => k T' v ⟨_, Y', N.app hq.1⟩ hq.2
theorem own_S.callP (X : own_S p l e R s m args below meth c n0 T cells slots) (hx : p.tables.exec = Jvm.exec) (hZ : Z.Warmed39 s.vm) {own : String} {index : Nat} {y : MethodName} {bytes : ByteArray} {mx : Nat} {ret : Option FieldType} {fr lo : Nat} {r : Value}
    (hown : s.vm.findClass own = some m.cls) (w1 : (Jvm.Cond.methodLink own index y).before a0 Z = true) (w2 : (Jvm.Cond.static y).before a0 Z = true) (w3 : (Jvm.Cond.initialized y.cls).before a0 Z = true) (w4 : (Jvm.Cond.code y bytes mx ret).before a0 Z = true) (hy : y.cls ≠ "java/lang/invoke/MethodHandle" ∧ y.cls ≠ "java/lang/invoke/VarHandle")
    (eT : T.heap = h) (argsL rest : List Value) (hM : own_C l Z y bytes mx ret [] { frames := fr, cells := 0, slots := 0, locals := lo } argsL.toArray h (own_P r h)) (W : Nat) (hf : fr + 1 ≤ R.frames) (hlo : W + (mx + 11) + lo ≤ R.locals) (hW : (rest.map fun v => v.category).sum ≤ W) (hc : cells ≤ R.cells) (hs : slots ≤ R.slots)
    {S : List Value} (hsize : Ls.size = c.maxLocals) (hlen : ∀ sig, parseMethodDescriptor y.desc = some sig → argsL.length = sig.parameters.length) (hS : S = argsL.reverse ++ rest) (hd : decode c.code pc = .ok (.invokestatic index, 3))
    (k : ∀ (T' : State), own_S p l e R s m args below meth c n0 T' cells slots → T'.heap = h → own_G p e below s Q kc ks T' (mkF m (pc + 3) Ls (r :: rest))) :
    own_G p e below s Q kc ks T (mkF m pc Ls S) := by
  obtain ⟨locs, Y, N⟩ := X
  exact own_callP Y hx hZ hown w1 w2 w3 w4 hy eT argsL rest hM W hf hlo hW hc hs hsize hlen hS hd fun T' Y' e' => k T' ⟨_, Y', N⟩ e'
theorem own_S.callI (X : own_S p l e R s m args below meth c n0 T cells slots) (hx : p.tables.exec = Jvm.exec) (hZ : Z.Warmed39 s.vm) {own : String} {index : Nat} {y : MethodName} {bytes : ByteArray} {mx : Nat} {rm : Room} {P : Option Value → Heap → Prop} (hy1 : y.name = "<init>")
    (hown : s.vm.findClass own = some m.cls) (w1 : (Jvm.Cond.methodLink own index y).before a0 Z = true) (w2 : (Jvm.Cond.instanceMethod y).before a0 Z = true) (w3 : (Jvm.Cond.initialized y.cls).before a0 Z = true) (w4 : (Jvm.Cond.code y bytes mx none).before a0 Z = true) (hy : y.cls ≠ "java/lang/invoke/MethodHandle" ∧ y.cls ≠ "java/lang/invoke/VarHandle")
    (eT : T.heap = h) (a : Addr) (argsL rest : List Value) (hM : own_C l Z y bytes mx none [] rm (.ref a :: argsL).toArray h (own_Q n0 P)) (W : Nat) (hf : rm.frames + 1 ≤ R.frames) (hlo : W + (mx + 11) + rm.locals ≤ R.locals) (hW : (rest.map fun v => v.category).sum ≤ W) (hc : cells + rm.cells ≤ R.cells) (hs : slots + rm.slots ≤ R.slots)
    {S : List Value} (hsize : Ls.size = c.maxLocals) (hlen : ∀ sig, parseMethodDescriptor y.desc = some sig → argsL.length = sig.parameters.length) (hS : S = argsL.reverse ++ .ref a :: rest) (hd : decode c.code pc = .ok (.invokespecial index, 3))
    (k : ∀ (T' : State) (v : Option Value), own_S p l e R s m args below meth c n0 T' (cells + rm.cells) (slots + rm.slots) → P v T'.heap → own_G p e below s Q kc ks T' (mkF m (pc + 3) Ls (v.toList ++ rest))) :
    own_G p e below s Q kc ks T (mkF m pc Ls S) := by
  obtain ⟨locs, Y, N⟩ := X
  exact own_callI Y hx hZ hy1 hown w1 w2 w3 w4 hy eT a argsL rest hM W hf hlo hW hc hs hsize hlen hS hd fun T' v L Y' hq => k T' v ⟨_, Y', N.app hq.1⟩ hq.2
theorem own_S.callV (X : own_S p l e R s m args below meth c n0 T cells slots) (hx : p.tables.exec = Jvm.exec) (hZ : Z.Warmed39 s.vm) {own C : String} {index : Nat} {y : MethodName} {bytes : ByteArray} {mx : Nat} {ret : Option FieldType} {rm : Room} {P : Option Value → Heap → Prop}
    (hown : s.vm.findClass own = some m.cls) (w1 : (Jvm.Cond.methodLink own index y).before a0 Z = true) (w5 : (Jvm.Cond.declares y).before a0 Z = true) (w6 : (Jvm.Cond.selects C y y).before a0 Z = true) (w2 : (Jvm.Cond.instanceMethod y).before a0 Z = true) (w3 : (Jvm.Cond.initialized y.cls).before a0 Z = true) (w4 : (Jvm.Cond.code y bytes mx ret).before a0 Z = true) (hy : y.cls ≠ "java/lang/invoke/MethodHandle" ∧ y.cls ≠ "java/lang/invoke/VarHandle")
    (eT : T.heap = h) {a : Addr} (E : Exa Z h a C) (argsL rest : List Value) (hM : own_C l Z y bytes mx ret [] rm (.ref a :: argsL).toArray h (own_Q n0 P)) (W : Nat) (hf : rm.frames + 1 ≤ R.frames) (hlo : W + (mx + 11) + rm.locals ≤ R.locals) (hW : (rest.map fun v => v.category).sum ≤ W) (hc : cells + rm.cells ≤ R.cells) (hs : slots + rm.slots ≤ R.slots)
    {S : List Value} (hsize : Ls.size = c.maxLocals) (hlen : ∀ sig, parseMethodDescriptor y.desc = some sig → argsL.length = sig.parameters.length) (hS : S = argsL.reverse ++ .ref a :: rest) (hd : decode c.code pc = .ok (.invokevirtual index, 3))
    (k : ∀ (T' : State) (v : Option Value), own_S p l e R s m args below meth c n0 T' (cells + rm.cells) (slots + rm.slots) → P v T'.heap → own_G p e below s Q kc ks T' (mkF m (pc + 3) Ls (v.toList ++ rest))) :
    own_G p e below s Q kc ks T (mkF m pc Ls S) := by
  obtain ⟨locs, Y, N⟩ := X
  exact own_callV Y hx hZ hown w1 w5 w6 w2 w3 w4 hy eT E argsL rest hM W hf hlo hW hc hs hsize hlen hS hd fun T' v L Y' hq => k T' v ⟨_, Y', N.app hq.1⟩ hq.2
end OwnHeap
theorem own_pd0 : parseMethodDescriptor "(I)I" = some ⟨[.int], some .int⟩ := by decide +kernel
theorem own_pd1 : parseMethodDescriptor "(JJ)J" = some ⟨[.long, .long], some .long⟩ := by decide +kernel
theorem own_pd2 : parseMethodDescriptor "(IJJ)[J" = some ⟨[.int, .long, .long], some (.array .long)⟩ := by decide +kernel
theorem own_pd3 : parseMethodDescriptor "([J)V" = some ⟨[(.array .long)], none⟩ := by decide +kernel
theorem own_pd4 : parseMethodDescriptor "()I" = some ⟨[], some .int⟩ := by decide +kernel
section OwnOpaque
variable {p : Program} {l : Launch} {e : Env} {R : Room} {s : State} {m : MethodId} {args : Array Value} {below : List Frame} {meth : Method} {c : Code} {T T' : State} {locs : List Loc} {cells slots n0 n : Nat} {Q : Option Value → Heap → List Loc → Prop} {kc ks : Nat} {g : JFrame} {Z : State} {a0 : Array Value} {h h' h0 : Heap} {a b : Addr} {vs : List Value} {ty : FieldType} {v w : Value} {sl pc : Nat} {Ls : Array Slot} {rest : List Value} {P : Value → Prop}
/-- an array of n places, of whose values only P is known -/
def own_O (Z : State) (h : Heap) (ty : FieldType) (a : Addr) (n : Nat) (P : Value → Prop) : Prop := ∃ vs, own_A Z h ty a vs ∧ vs.length = n ∧ ∀ v ∈ vs, P v
def own_isJ (v : Value) : Prop := ∃ x : Int64, v = .long x
def own_isI (v : Value) : Prop := ∃ x : Int32, v = .int x
/-- an int below n -/
def own_below (n : Nat) (v : Value) : Prop := ∃ x : Int32, v = .int x ∧ 0 ≤ x.toInt ∧ x.toInt < n
theorem own_O.lt (A : own_O Z h ty a n P) : a < h.size := A.elim fun _ q => q.1.lt
theorem own_O.ext (A : own_O Z h ty a n P) (E : Ext h h') : own_O Z h' ty a n P := A.elim fun vs q => ⟨vs, q.1.ext E, q.2⟩
theorem own_O.other (A : own_O Z h ty b n P) (W : Wr h h' a sl v) (q : b ≠ a) : own_O Z h' ty b n P := A.elim fun vs r => ⟨vs, r.1.other W q, r.2⟩
theorem own_O.keep {ws : List Addr} (A : own_O Z h ty a n P) (K : Keep h h' ws) (q : a ∉ ws) : own_O Z h' ty a n P := A.elim fun vs r => ⟨vs, r.1.keep K q, r.2⟩
theorem own_O.len (A : own_O Z h ty a n P) : n < 2 ^ 31 := A.elim fun _ q => q.2.1 ▸ q.1.len
theorem own_O.mono {P' : Value → Prop} (A : own_O Z h ty a n P) (q : ∀ v, P v → P' v) : own_O Z h ty a n P' := A.elim fun vs r => ⟨vs, r.1, r.2.1, fun v hv => q v (r.2.2 v hv)⟩
theorem own_O.of (A : own_A Z h ty a vs) (q : ∀ v ∈ vs, P v) : own_O Z h ty a vs.length P := ⟨vs, A, rfl, q⟩
theorem own_O.rep (A : own_A Z h ty a (List.replicate n v)) (q : P v) : own_O Z h ty a n P := ⟨_, A, List.length_replicate, fun w hw => by rw [(List.mem_replicate.mp hw).2]; exact q⟩
theorem own_set_all {i : Nat} (q : ∀ v ∈ vs, P v) (r : P w) : ∀ v ∈ vs.set i w, P v := fun v hv => (List.mem_or_eq_of_mem_set hv).elim (q v) (fun z => z ▸ r)
theorem own_S.ldJo (X : own_S p l e R s m args below meth c n0 T cells slots) (hx : p.tables.exec = Jvm.exec) (hZ : Z.Warmed39 s.vm) (eT : T.heap = h) (A : own_O Z h .long a n P) {j : Int32} (i : Nat) (hj : j.toInt = i) (hi : i < n) (hd : decode c.code pc = .ok (.laload, 1))
    (k : ∀ v, P v → own_G p e below s Q kc ks T (mkF m (pc + 1) Ls (v :: rest))) : own_G p e below s Q kc ks T (mkF m pc Ls (.int j :: .ref a :: rest)) := by
  obtain ⟨vs, A, q1, q2⟩ := A
  exact X.ldJ hx hZ eT A i hj (List.getElem?_eq_getElem (by omega)) hd (k _ (q2 _ (List.getElem_mem _)))
theorem own_S.ldIo (X : own_S p l e R s m args below meth c n0 T cells slots) (hx : p.tables.exec = Jvm.exec) (hZ : Z.Warmed39 s.vm) (eT : T.heap = h) (A : own_O Z h .int a n P) {j : Int32} (i : Nat) (hj : j.toInt = i) (hi : i < n) (hd : decode c.code pc = .ok (.iaload, 1))
    (k : ∀ v, P v → own_G p e below s Q kc ks T (mkF m (pc + 1) Ls (v :: rest))) : own_G p e below s Q kc ks T (mkF m pc Ls (.int j :: .ref a :: rest)) := by
  obtain ⟨vs, A, q1, q2⟩ := A
  exact X.ldI hx hZ eT A i hj (List.getElem?_eq_getElem (by omega)) hd (k _ (q2 _ (List.getElem_mem _)))
theorem own_S.aleno (X : own_S p l e R s m args below meth c n0 T cells slots) (hx : p.tables.exec = Jvm.exec) (hZ : Z.Warmed39 s.vm) (eT : T.heap = h) (A : own_O Z h ty a n P) (hd : decode c.code pc = .ok (.arraylength, 1))
    (k : own_G p e below s Q kc ks T (mkF m (pc + 1) Ls (.int (Int32.ofNat n) :: rest))) : own_G p e below s Q kc ks T (mkF m pc Ls (.ref a :: rest)) := by
  obtain ⟨vs, A, rfl, q2⟩ := A
  exact X.alen hx hZ eT A hd k
theorem own_S.stJo (X : own_S p l e R s m args below meth c n0 T cells slots) (hx : p.tables.exec = Jvm.exec) (hZ : Z.Warmed39 s.vm) (eT : T.heap = h) (A : own_O Z h .long a n P) (g0 : n0 ≤ a) {j : Int32} {x : Int64} (i : Nat) (hj : j.toInt = i) (hi : i < n) (hP : P (.long x)) (hd : decode c.code pc = .ok (.lastore, 1))
    (k : ∀ T' h', own_S p l e R s m args below meth c n0 T' cells slots → T'.heap = h' → Wr h h' a i (.long x) → own_O Z h' .long a n P → own_G p e below s Q kc ks T' (mkF m (pc + 1) Ls rest)) : own_G p e below s Q kc ks T (mkF m pc Ls (.long x :: .int j :: .ref a :: rest)) := by
  obtain ⟨vs, A, q1, q2⟩ := A
  exact X.stJ hx hZ eT A g0 i hj (by omega) hd fun T' h' X' e' W A' => k T' h' X' e' W ⟨_, A', by rw [List.length_set]; exact q1, own_set_all q2 hP⟩
theorem own_S.stIo (X : own_S p l e R s m args below meth c n0 T cells slots) (hx : p.tables.exec = Jvm.exec) (hZ : Z.Warmed39 s.vm) (eT : T.heap = h) (A : own_O Z h .int a n P) (g0 : n0 ≤ a) {j x : Int32} (i : Nat) (hj : j.toInt = i) (hi : i < n) (hP : P (.int x)) (hd : decode c.code pc = .ok (.iastore, 1))
    (k : ∀ T' h', own_S p l e R s m args below meth c n0 T' cells slots → T'.heap = h' → Wr h h' a i (.int x) → own_O Z h' .int a n P → own_G p e below s Q kc ks T' (mkF m (pc + 1) Ls rest)) : own_G p e below s Q kc ks T (mkF m pc Ls (.int x :: .int j :: .ref a :: rest)) := by
  obtain ⟨vs, A, q1, q2⟩ := A
  exact X.stI hx hZ eT A g0 i hj (by omega) hd fun T' h' X' e' W A' => k T' h' X' e' W ⟨_, A', by rw [List.length_set]; exact q1, own_set_all q2 hP⟩
theorem own_S.stZo (X : own_S p l e R s m args below meth c n0 T cells slots) (hx : p.tables.exec = Jvm.exec) (hZ : Z.Warmed39 s.vm) (eT : T.heap = h) (A : own_O Z h .boolean a n P) (g0 : n0 ≤ a) {j x : Int32} (i : Nat) (hj : j.toInt = i) (hi : i < n) (hP : P (.int (x &&& 1))) (hd : decode c.code pc = .ok (.bastore, 1))
    (k : ∀ T' h', own_S p l e R s m args below meth c n0 T' cells slots → T'.heap = h' → Wr h h' a i (.int (x &&& 1)) → own_O Z h' .boolean a n P → own_G p e below s Q kc ks T' (mkF m (pc + 1) Ls rest)) : own_G p e below s Q kc ks T (mkF m pc Ls (.int x :: .int j :: .ref a :: rest)) := by
  obtain ⟨vs, A, q1, q2⟩ := A
  exact X.stZ hx hZ eT A g0 i hj (by omega) hd fun T' h' X' e' W A' => k T' h' X' e' W ⟨_, A', by rw [List.length_set]; exact q1, own_set_all q2 hP⟩
end OwnOpaque

def own_nlz (x : Int32) : Int32 := (if (0 : Int32) < x then (if x < (65536 : Int32) then (if x < (256 : Int32) then (if x < (16 : Int32) then (if x < (4 : Int32) then ((31 : Int32) - ((x.toUInt32 >>> ((1 : Int32) &&& 31).toUInt32).toInt32)) else ((29 : Int32) - ((((x.toUInt32 >>> ((2 : Int32) &&& 31).toUInt32).toInt32).toUInt32 >>> ((1 : Int32) &&& 31).toUInt32).toInt32))) else (if ((x.toUInt32 >>> ((4 : Int32) &&& 31).toUInt32).toInt32) < (4 : Int32) then ((27 : Int32) - ((((x.toUInt32 >>> ((4 : Int32) &&& 31).toUInt32).toInt32).toUInt32 >>> ((1 : Int32) &&& 31).toUInt32).toInt32)) else ((25 : Int32) - ((((((x.toUInt32 >>> ((4 : Int32) &&& 31).toUInt32).toInt32).toUInt32 >>> ((2 : Int32) &&& 31).toUInt32).toInt32).toUInt32 >>> ((1 : Int32) &&& 31).toUInt32).toInt32)))) else (if ((x.toUInt32 >>> ((8 : Int32) &&& 31).toUInt32).toInt32) < (16 : Int32) then (if ((x.toUInt32 >>> ((8 : Int32) &&& 31).toUInt32).toInt32) < (4 : Int32) then ((23 : Int32) - ((((x.toUInt32 >>> ((8 : Int32) &&& 31).toUInt32).toInt32).toUInt32 >>> ((1 : Int32) &&& 31).toUInt32).toInt32)) else ((21 : Int32) - ((((((x.toUInt32 >>> ((8 : Int32) &&& 31).toUInt32).toInt32).toUInt32 >>> ((2 : Int32) &&& 31).toUInt32).toInt32).toUInt32 >>> ((1 : Int32) &&& 31).toUInt32).toInt32))) else (if ((((x.toUInt32 >>> ((8 : Int32) &&& 31).toUInt32).toInt32).toUInt32 >>> ((4 : Int32) &&& 31).toUInt32).toInt32) < (4 : Int32) then ((19 : Int32) - ((((((x.toUInt32 >>> ((8 : Int32) &&& 31).toUInt32).toInt32).toUInt32 >>> ((4 : Int32) &&& 31).toUInt32).toInt32).toUInt32 >>> ((1 : Int32) &&& 31).toUInt32).toInt32)) else ((17 : Int32) - ((((((((x.toUInt32 >>> ((8 : Int32) &&& 31).toUInt32).toInt32).toUInt32 >>> ((4 : Int32) &&& 31).toUInt32).toInt32).toUInt32 >>> ((2 : Int32) &&& 31).toUInt32).toInt32).toUInt32 >>> ((1 : Int32) &&& 31).toUInt32).toInt32))))) else (if ((x.toUInt32 >>> ((16 : Int32) &&& 31).toUInt32).toInt32) < (256 : Int32) then (if ((x.toUInt32 >>> ((16 : Int32) &&& 31).toUInt32).toInt32) < (16 : Int32) then (if ((x.toUInt32 >>> ((16 : Int32) &&& 31).toUInt32).toInt32) < (4 : Int32) then ((15 : Int32) - ((((x.toUInt32 >>> ((16 : Int32) &&& 31).toUInt32).toInt32).toUInt32 >>> ((1 : Int32) &&& 31).toUInt32).toInt32)) else ((13 : Int32) - ((((((x.toUInt32 >>> ((16 : Int32) &&& 31).toUInt32).toInt32).toUInt32 >>> ((2 : Int32) &&& 31).toUInt32).toInt32).toUInt32 >>> ((1 : Int32) &&& 31).toUInt32).toInt32))) else (if ((((x.toUInt32 >>> ((16 : Int32) &&& 31).toUInt32).toInt32).toUInt32 >>> ((4 : Int32) &&& 31).toUInt32).toInt32) < (4 : Int32) then ((11 : Int32) - ((((((x.toUInt32 >>> ((16 : Int32) &&& 31).toUInt32).toInt32).toUInt32 >>> ((4 : Int32) &&& 31).toUInt32).toInt32).toUInt32 >>> ((1 : Int32) &&& 31).toUInt32).toInt32)) else ((9 : Int32) - ((((((((x.toUInt32 >>> ((16 : Int32) &&& 31).toUInt32).toInt32).toUInt32 >>> ((4 : Int32) &&& 31).toUInt32).toInt32).toUInt32 >>> ((2 : Int32) &&& 31).toUInt32).toInt32).toUInt32 >>> ((1 : Int32) &&& 31).toUInt32).toInt32)))) else (if ((((x.toUInt32 >>> ((16 : Int32) &&& 31).toUInt32).toInt32).toUInt32 >>> ((8 : Int32) &&& 31).toUInt32).toInt32) < (16 : Int32) then (if ((((x.toUInt32 >>> ((16 : Int32) &&& 31).toUInt32).toInt32).toUInt32 >>> ((8 : Int32) &&& 31).toUInt32).toInt32) < (4 : Int32) then ((7 : Int32) - ((((((x.toUInt32 >>> ((16 : Int32) &&& 31).toUInt32).toInt32).toUInt32 >>> ((8 : Int32) &&& 31).toUInt32).toInt32).toUInt32 >>> ((1 : Int32) &&& 31).toUInt32).toInt32)) else ((5 : Int32) - ((((((((x.toUInt32 >>> ((16 : Int32) &&& 31).toUInt32).toInt32).toUInt32 >>> ((8 : Int32) &&& 31).toUInt32).toInt32).toUInt32 >>> ((2 : Int32) &&& 31).toUInt32).toInt32).toUInt32 >>> ((1 : Int32) &&& 31).toUInt32).toInt32))) else (if ((((((x.toUInt32 >>> ((16 : Int32) &&& 31).toUInt32).toInt32).toUInt32 >>> ((8 : Int32) &&& 31).toUInt32).toInt32).toUInt32 >>> ((4 : Int32) &&& 31).toUInt32).toInt32) < (4 : Int32) then ((3 : Int32) - ((((((((x.toUInt32 >>> ((16 : Int32) &&& 31).toUInt32).toInt32).toUInt32 >>> ((8 : Int32) &&& 31).toUInt32).toInt32).toUInt32 >>> ((4 : Int32) &&& 31).toUInt32).toInt32).toUInt32 >>> ((1 : Int32) &&& 31).toUInt32).toInt32)) else ((1 : Int32) - ((((((((((x.toUInt32 >>> ((16 : Int32) &&& 31).toUInt32).toInt32).toUInt32 >>> ((8 : Int32) &&& 31).toUInt32).toInt32).toUInt32 >>> ((4 : Int32) &&& 31).toUInt32).toInt32).toUInt32 >>> ((2 : Int32) &&& 31).toUInt32).toInt32).toUInt32 >>> ((1 : Int32) &&& 31).toUInt32).toInt32)))))) else (if x = (0 : Int32) then (32 : Int32) else (0 : Int32)))
theorem own_dn_0 : decode jdk_33_method_47_code 0 = .ok (.iload_n 0, 1) := by decide +kernel
theorem own_dn_1 : decode jdk_33_method_47_code 1 = .ok (.ifCond .gt 14, 3) := by decide +kernel
theorem own_dn_4 : decode jdk_33_method_47_code 4 = .ok (.iload_n 0, 1) := by decide +kernel
theorem own_dn_5 : decode jdk_33_method_47_code 5 = .ok (.ifCond .ne 8, 3) := by decide +kernel
theorem own_dn_8 : decode jdk_33_method_47_code 8 = .ok (.bipush 32, 2) := by decide +kernel
theorem own_dn_10 : decode jdk_33_method_47_code 10 = .ok (.goto 4, 3) := by decide +kernel
theorem own_dn_13 : decode jdk_33_method_47_code 13 = .ok (.iconst 0, 1) := by decide +kernel
theorem own_dn_14 : decode jdk_33_method_47_code 14 = .ok (.ireturn, 1) := by decide +kernel
theorem own_dn_15 : decode jdk_33_method_47_code 15 = .ok (.bipush 31, 2) := by decide +kernel
theorem own_dn_17 : decode jdk_33_method_47_code 17 = .ok (.istore_n 1, 1) := by decide +kernel
theorem own_dn_18 : decode jdk_33_method_47_code 18 = .ok (.iload_n 0, 1) := by decide +kernel
theorem own_dn_19 : decode jdk_33_method_47_code 19 = .ok (.ldc_w 264, 3) := by decide +kernel
theorem own_dn_22 : decode jdk_33_method_47_code 22 = .ok (.if_icmp .lt 11, 3) := by decide +kernel
theorem own_dn_25 : decode jdk_33_method_47_code 25 = .ok (.iinc 1 (-16), 3) := by decide +kernel
theorem own_dn_28 : decode jdk_33_method_47_code 28 = .ok (.iload_n 0, 1) := by decide +kernel
theorem own_dn_29 : decode jdk_33_method_47_code 29 = .ok (.bipush 16, 2) := by decide +kernel
theorem own_dn_31 : decode jdk_33_method_47_code 31 = .ok (.iushr, 1) := by decide +kernel
theorem own_dn_32 : decode jdk_33_method_47_code 32 = .ok (.istore_n 0, 1) := by decide +kernel
theorem own_dn_33 : decode jdk_33_method_47_code 33 = .ok (.iload_n 0, 1) := by decide +kernel
theorem own_dn_34 : decode jdk_33_method_47_code 34 = .ok (.sipush 256, 3) := by decide +kernel
theorem own_dn_37 : decode jdk_33_method_47_code 37 = .ok (.if_icmp .lt 11, 3) := by decide +kernel
theorem own_dn_40 : decode jdk_33_method_47_code 40 = .ok (.iinc 1 (-8), 3) := by decide +kernel
theorem own_dn_43 : decode jdk_33_method_47_code 43 = .ok (.iload_n 0, 1) := by decide +kernel
theorem own_dn_44 : decode jdk_33_method_47_code 44 = .ok (.bipush 8, 2) := by decide +kernel
theorem own_dn_46 : decode jdk_33_method_47_code 46 = .ok (.iushr, 1) := by decide +kernel
theorem own_dn_47 : decode jdk_33_method_47_code 47 = .ok (.istore_n 0, 1) := by decide +kernel
theorem own_dn_48 : decode jdk_33_method_47_code 48 = .ok (.iload_n 0, 1) := by decide +kernel
theorem own_dn_49 : decode jdk_33_method_47_code 49 = .ok (.bipush 16, 2) := by decide +kernel
theorem own_dn_51 : decode jdk_33_method_47_code 51 = .ok (.if_icmp .lt 10, 3) := by decide +kernel
theorem own_dn_54 : decode jdk_33_method_47_code 54 = .ok (.iinc 1 (-4), 3) := by decide +kernel
theorem own_dn_57 : decode jdk_33_method_47_code 57 = .ok (.iload_n 0, 1) := by decide +kernel
theorem own_dn_58 : decode jdk_33_method_47_code 58 = .ok (.iconst 4, 1) := by decide +kernel
theorem own_dn_59 : decode jdk_33_method_47_code 59 = .ok (.iushr, 1) := by decide +kernel
theorem own_dn_60 : decode jdk_33_method_47_code 60 = .ok (.istore_n 0, 1) := by decide +kernel
theorem own_dn_61 : decode jdk_33_method_47_code 61 = .ok (.iload_n 0, 1) := by decide +kernel
theorem own_dn_62 : decode jdk_33_method_47_code 62 = .ok (.iconst 4, 1) := by decide +kernel
theorem own_dn_63 : decode jdk_33_method_47_code 63 = .ok (.if_icmp .lt 10, 3) := by decide +kernel
theorem own_dn_66 : decode jdk_33_method_47_code 66 = .ok (.iinc 1 (-2), 3) := by decide +kernel
theorem own_dn_69 : decode jdk_33_method_47_code 69 = .ok (.iload_n 0, 1) := by decide +kernel
theorem own_dn_70 : decode jdk_33_method_47_code 70 = .ok (.iconst 2, 1) := by decide +kernel
theorem own_dn_71 : decode jdk_33_method_47_code 71 = .ok (.iushr, 1) := by decide +kernel
theorem own_dn_72 : decode jdk_33_method_47_code 72 = .ok (.istore_n 0, 1) := by decide +kernel
theorem own_dn_73 : decode jdk_33_method_47_code 73 = .ok (.iload_n 1, 1) := by decide +kernel
theorem own_dn_74 : decode jdk_33_method_47_code 74 = .ok (.iload_n 0, 1) := by decide +kernel
theorem own_dn_75 : decode jdk_33_method_47_code 75 = .ok (.iconst 1, 1) := by decide +kernel
theorem own_dn_76 : decode jdk_33_method_47_code 76 = .ok (.iushr, 1) := by decide +kernel
theorem own_dn_77 : decode jdk_33_method_47_code 77 = .ok (.isub, 1) := by decide +kernel
theorem own_dn_78 : decode jdk_33_method_47_code 78 = .ok (.ireturn, 1) := by decide +kernel
theorem own_pn_own_nlzC : plainFor (⟨"java/lang/Integer", "numberOfLeadingZeros", "(I)I"⟩ : MethodName) = true := plainFor_of_name (show plainName "java/lang/Integer" = true by first | (simp [plainName, overriddenIn]; done) | decide +kernel)
set_option maxRecDepth 65536 in
set_option maxHeartbeats 40000000 in
theorem own_nlzC (l : Launch) (Z : State) (a0 : Array Value) (hw : ∀ d ∈ tables_1, d.before a0 Z = true) (ws : List Jvm.Cond) (h0 : Heap) (x : Int32)  :
    own_C l Z (⟨"java/lang/Integer", "numberOfLeadingZeros", "(I)I"⟩ : MethodName) jdk_33_method_47_code 2 (some .int) ws ({ frames := 0, cells := 0, slots := 0, locals := 0 } : Room) #[(.int x)] h0 (own_P (.int (own_nlz x)) h0) := by
  refine own_met own_pn_own_nlzC #[iv x, .unset] (fun m => by first | (simp [entryFrame, mkF, argsToLocals, Value.category]; done) | rfl) ?_
  intro p e s m below meth c s₁ hx hby hml hown hret hlk hZ hnm X0 e0
  refine own_gs 1 [(.int x)] (fun t' k => XS.iloadN X0.here hx rfl (hb hby own_dn_0) rfl  k) ?_
  by_cases hc1 : (0 : Int32) < x
  · skip
    refine own_gs 15 [] (fun t' k => XS.ifYes X0.here hx rfl (pc0 := 1) (pc' := 15) rfl (hb hby own_dn_1) rfl ((if0 _ _).trans (tlt hc1).2.2.1) (by decide) (by decide) k) ?_
    refine own_gs 17 [(.int (31 : Int32))] (fun t' k => XS.bipush X0.here hx rfl (hb hby own_dn_15) k) ?_
    refine own_go (mkF m 18 #[iv x, iv (31 : Int32)] []) (fun t' k => XS.istoreN X0.here hx rfl (hb hby own_dn_17) rfl rfl k) ?_
    refine own_gs 19 [(.int x)] (fun t' k => XS.iloadN X0.here hx rfl (hb hby own_dn_18) rfl  k) ?_
    refine own_gs 22 [(.int (65536 : Int32)), (.int x)] (fun t' k => X0.ldcwInt hx hown (mvT hZ (hw _ (List.mem_of_getElem? (i := 50) rfl))) (g := (mkF m 19 #[iv x, iv (31 : Int32)] [(.int x)])) rfl (hb hby own_dn_19) _ k) ?_
    by_cases hc22 : x < (65536 : Int32)
    · skip
      refine own_gs 33 [] (fun t' k => XS.icmpYes X0.here hx rfl (pc0 := 22) (pc' := 33) rfl (hb hby own_dn_22) rfl (tlt hc22).1 (by decide) (by decide) k) ?_
      refine own_gs 34 [(.int x)] (fun t' k => XS.iloadN X0.here hx rfl (hb hby own_dn_33) rfl  k) ?_
      refine own_gs 37 [(.int (256 : Int32)), (.int x)] (fun t' k => XS.sipush X0.here hx rfl (hb hby own_dn_34) k) ?_
      by_cases hc37 : x < (256 : Int32)
      · skip
        refine own_gs 48 [] (fun t' k => XS.icmpYes X0.here hx rfl (pc0 := 37) (pc' := 48) rfl (hb hby own_dn_37) rfl (tlt hc37).1 (by decide) (by decide) k) ?_
        refine own_gs 49 [(.int x)] (fun t' k => XS.iloadN X0.here hx rfl (hb hby own_dn_48) rfl  k) ?_
        refine own_gs 51 [(.int (16 : Int32)), (.int x)] (fun t' k => XS.bipush X0.here hx rfl (hb hby own_dn_49) k) ?_
        by_cases hc51 : x < (16 : Int32)
        · skip
          refine own_gs 61 [] (fun t' k => XS.icmpYes X0.here hx rfl (pc0 := 51) (pc' := 61) rfl (hb hby own_dn_51) rfl (tlt hc51).1 (by decide) (by decide) k) ?_
          refine own_gs 62 [(.int x)] (fun t' k => XS.iloadN X0.here hx rfl (hb hby own_dn_61) rfl  k) ?_
          refine own_gs 63 [(.int (4 : Int32)), (.int x)] (fun t' k => XS.iconst X0.here hx rfl (hb hby own_dn_62) k) ?_
          by_cases hc63 : x < (4 : Int32)
          · skip
            refine own_gs 73 [] (fun t' k => XS.icmpYes X0.here hx rfl (pc0 := 63) (pc' := 73) rfl (hb hby own_dn_63) rfl (tlt hc63).1 (by decide) (by decide) k) ?_
            refine own_gs 74 [(.int (31 : Int32))] (fun t' k => XS.iloadN X0.here hx rfl (hb hby own_dn_73) rfl  k) ?_
            refine own_gs 75 [(.int x), (.int (31 : Int32))] (fun t' k => XS.iloadN X0.here hx rfl (hb hby own_dn_74) rfl  k) ?_
            refine own_gs 76 [(.int (1 : Int32)), (.int x), (.int (31 : Int32))] (fun t' k => XS.iconst X0.here hx rfl (hb hby own_dn_75) k) ?_
            refine own_gs 77 [(.int ((x.toUInt32 >>> ((1 : Int32) &&& 31).toUInt32).toInt32)), (.int (31 : Int32))] (fun t' k => XS.iushr X0.here hx rfl (hb hby own_dn_76) rfl k) ?_
            refine own_gs 78 [(.int ((31 : Int32) - ((x.toUInt32 >>> ((1 : Int32) &&& 31).toUInt32).toInt32)))] (fun t' k => XS.isub X0.here hx rfl (hb hby own_dn_77) rfl k) ?_
            refine own_retI X0 hx hlk hret (hb hby own_dn_78) ?_ (by decide) (by decide)
            exact ⟨congrArg (fun z => some (Value.int z)) ((show (own_nlz x) = ((31 : Int32) - ((x.toUInt32 >>> ((1 : Int32) &&& 31).toUInt32).toInt32)) from ((if_pos hc1).trans ((if_pos hc22).trans ((if_pos hc37).trans ((if_pos hc51).trans ((if_pos hc63).trans rfl)))))).trans (by rfl : ((31 : Int32) - ((x.toUInt32 >>> ((1 : Int32) &&& 31).toUInt32).toInt32)) = ((31 : Int32) - ((x.toUInt32 >>> ((1 : Int32) &&& 31).toUInt32).toInt32)))).symm, e0, rfl⟩
          · skip
            refine own_gs 66 [] (fun t' k => XS.icmpNo X0.here hx rfl (hb hby own_dn_63) rfl (flt hc63).1 k) ?_
            refine own_go (mkF m 69 #[iv x, iv (29 : Int32)] []) (fun t' k => XS.iinc X0.here hx rfl (hb hby own_dn_66) rfl rfl k) ?_
            refine own_gs 70 [(.int x)] (fun t' k => XS.iloadN X0.here hx rfl (hb hby own_dn_69) rfl  k) ?_
            refine own_gs 71 [(.int (2 : Int32)), (.int x)] (fun t' k => XS.iconst X0.here hx rfl (hb hby own_dn_70) k) ?_
            refine own_gs 72 [(.int ((x.toUInt32 >>> ((2 : Int32) &&& 31).toUInt32).toInt32))] (fun t' k => XS.iushr X0.here hx rfl (hb hby own_dn_71) rfl k) ?_
            refine own_go (mkF m 73 #[iv ((x.toUInt32 >>> ((2 : Int32) &&& 31).toUInt32).toInt32), iv (29 : Int32)] []) (fun t' k => XS.istoreN X0.here hx rfl (hb hby own_dn_72) rfl rfl k) ?_
            refine own_gs 74 [(.int (29 : Int32))] (fun t' k => XS.iloadN X0.here hx rfl (hb hby own_dn_73) rfl  k) ?_
            refine own_gs 75 [(.int ((x.toUInt32 >>> ((2 : Int32) &&& 31).toUInt32).toInt32)), (.int (29 : Int32))] (fun t' k => XS.iloadN X0.here hx rfl (hb hby own_dn_74) rfl  k) ?_
            refine own_gs 76 [(.int (1 : Int32)), (.int ((x.toUInt32 >>> ((2 : Int32) &&& 31).toUInt32).toInt32)), (.int (29 : Int32))] (fun t' k => XS.iconst X0.here hx rfl (hb hby own_dn_75) k) ?_
            refine own_gs 77 [(.int ((((x.toUInt32 >>> ((2 : Int32) &&& 31).toUInt32).toInt32).toUInt32 >>> ((1 : Int32) &&& 31).toUInt32).toInt32)), (.int (29 : Int32))] (fun t' k => XS.iushr X0.here hx rfl (hb hby own_dn_76) rfl k) ?_
            refine own_gs 78 [(.int ((29 : Int32) - ((((x.toUInt32 >>> ((2 : Int32) &&& 31).toUInt32).toInt32).toUInt32 >>> ((1 : Int32) &&& 31).toUInt32).toInt32)))] (fun t' k => XS.isub X0.here hx rfl (hb hby own_dn_77) rfl k) ?_
            refine own_retI X0 hx hlk hret (hb hby own_dn_78) ?_ (by decide) (by decide)
            exact ⟨congrArg (fun z => some (Value.int z)) ((show (own_nlz x) = ((29 : Int32) - ((((x.toUInt32 >>> ((2 : Int32) &&& 31).toUInt32).toInt32).toUInt32 >>> ((1 : Int32) &&& 31).toUInt32).toInt32)) from ((if_pos hc1).trans ((if_pos hc22).trans ((if_pos hc37).trans ((if_pos hc51).trans ((if_neg hc63).trans rfl)))))).trans (by rfl : ((29 : Int32) - ((((x.toUInt32 >>> ((2 : Int32) &&& 31).toUInt32).toInt32).toUInt32 >>> ((1 : Int32) &&& 31).toUInt32).toInt32)) = ((29 : Int32) - ((((x.toUInt32 >>> ((2 : Int32) &&& 31).toUInt32).toInt32).toUInt32 >>> ((1 : Int32) &&& 31).toUInt32).toInt32)))).symm, e0, rfl⟩
        · skip
          refine own_gs 54 [] (fun t' k => XS.icmpNo X0.here hx rfl (hb hby own_dn_51) rfl (flt hc51).1 k) ?_
          refine own_go (mkF m 57 #[iv x, iv (27 : Int32)] []) (fun t' k => XS.iinc X0.here hx rfl (hb hby own_dn_54) rfl rfl k) ?_
          refine own_gs 58 [(.int x)] (fun t' k => XS.iloadN X0.here hx rfl (hb hby own_dn_57) rfl  k) ?_
          refine own_gs 59 [(.int (4 : Int32)), (.int x)] (fun t' k => XS.iconst X0.here hx rfl (hb hby own_dn_58) k) ?_
          refine own_gs 60 [(.int ((x.toUInt32 >>> ((4 : Int32) &&& 31).toUInt32).toInt32))] (fun t' k => XS.iushr X0.here hx rfl (hb hby own_dn_59) rfl k) ?_
          refine own_go (mkF m 61 #[iv ((x.toUInt32 >>> ((4 : Int32) &&& 31).toUInt32).toInt32), iv (27 : Int32)] []) (fun t' k => XS.istoreN X0.here hx rfl (hb hby own_dn_60) rfl rfl k) ?_
          refine own_gs 62 [(.int ((x.toUInt32 >>> ((4 : Int32) &&& 31).toUInt32).toInt32))] (fun t' k => XS.iloadN X0.here hx rfl (hb hby own_dn_61) rfl  k) ?_
          refine own_gs 63 [(.int (4 : Int32)), (.int ((x.toUInt32 >>> ((4 : Int32) &&& 31).toUInt32).toInt32))] (fun t' k => XS.iconst X0.here hx rfl (hb hby own_dn_62) k) ?_
          by_cases hc63 : ((x.toUInt32 >>> ((4 : Int32) &&& 31).toUInt32).toInt32) < (4 : Int32)
          · skip
            refine own_gs 73 [] (fun t' k => XS.icmpYes X0.here hx rfl (pc0 := 63) (pc' := 73) rfl (hb hby own_dn_63) rfl (tlt hc63).1 (by decide) (by decide) k) ?_
            refine own_gs 74 [(.int (27 : Int32))] (fun t' k => XS.iloadN X0.here hx rfl (hb hby own_dn_73) rfl  k) ?_
            refine own_gs 75 [(.int ((x.toUInt32 >>> ((4 : Int32) &&& 31).toUInt32).toInt32)), (.int (27 : Int32))] (fun t' k => XS.iloadN X0.here hx rfl (hb hby own_dn_74) rfl  k) ?_
            refine own_gs 76 [(.int (1 : Int32)), (.int ((x.toUInt32 >>> ((4 : Int32) &&& 31).toUInt32).toInt32)), (.int (27 : Int32))] (fun t' k => XS.iconst X0.here hx rfl (hb hby own_dn_75) k) ?_
            refine own_gs 77 [(.int ((((x.toUInt32 >>> ((4 : Int32) &&& 31).toUInt32).toInt32).toUInt32 >>> ((1 : Int32) &&& 31).toUInt32).toInt32)), (.int (27 : Int32))] (fun t' k => XS.iushr X0.here hx rfl (hb hby own_dn_76) rfl k) ?_
            refine own_gs 78 [(.int ((27 : Int32) - ((((x.toUInt32 >>> ((4 : Int32) &&& 31).toUInt32).toInt32).toUInt32 >>> ((1 : Int32) &&& 31).toUInt32).toInt32)))] (fun t' k => XS.isub X0.here hx rfl (hb hby own_dn_77) rfl k) ?_
            refine own_retI X0 hx hlk hret (hb hby own_dn_78) ?_ (by decide) (by decide)
            exact ⟨congrArg (fun z => some (Value.int z)) ((show (own_nlz x) = ((27 : Int32) - ((((x.toUInt32 >>> ((4 : Int32) &&& 31).toUInt32).toInt32).toUInt32 >>> ((1 : Int32) &&& 31).toUInt32).toInt32)) from ((if_pos hc1).trans ((if_pos hc22).trans ((if_pos hc37).trans ((if_neg hc51).trans ((if_pos hc63).trans rfl)))))).trans (by rfl : ((27 : Int32) - ((((x.toUInt32 >>> ((4 : Int32) &&& 31).toUInt32).toInt32).toUInt32 >>> ((1 : Int32) &&& 31).toUInt32).toInt32)) = ((27 : Int32) - ((((x.toUInt32 >>> ((4 : Int32) &&& 31).toUInt32).toInt32).toUInt32 >>> ((1 : Int32) &&& 31).toUInt32).toInt32)))).symm, e0, rfl⟩
          · skip
            refine own_gs 66 [] (fun t' k => XS.icmpNo X0.here hx rfl (hb hby own_dn_63) rfl (flt hc63).1 k) ?_
            refine own_go (mkF m 69 #[iv ((x.toUInt32 >>> ((4 : Int32) &&& 31).toUInt32).toInt32), iv (25 : Int32)] []) (fun t' k => XS.iinc X0.here hx rfl (hb hby own_dn_66) rfl rfl k) ?_
            refine own_gs 70 [(.int ((x.toUInt32 >>> ((4 : Int32) &&& 31).toUInt32).toInt32))] (fun t' k => XS.iloadN X0.here hx rfl (hb hby own_dn_69) rfl  k) ?_
            refine own_gs 71 [(.int (2 : Int32)), (.int ((x.toUInt32 >>> ((4 : Int32) &&& 31).toUInt32).toInt32))] (fun t' k => XS.iconst X0.here hx rfl (hb hby own_dn_70) k) ?_
            refine own_gs 72 [(.int ((((x.toUInt32 >>> ((4 : Int32) &&& 31).toUInt32).toInt32).toUInt32 >>> ((2 : Int32) &&& 31).toUInt32).toInt32))] (fun t' k => XS.iushr X0.here hx rfl (hb hby own_dn_71) rfl k) ?_
            refine own_go (mkF m 73 #[iv ((((x.toUInt32 >>> ((4 : Int32) &&& 31).toUInt32).toInt32).toUInt32 >>> ((2 : Int32) &&& 31).toUInt32).toInt32), iv (25 : Int32)] []) (fun t' k => XS.istoreN X0.here hx rfl (hb hby own_dn_72) rfl rfl k) ?_
            refine own_gs 74 [(.int (25 : Int32))] (fun t' k => XS.iloadN X0.here hx rfl (hb hby own_dn_73) rfl  k) ?_
            refine own_gs 75 [(.int ((((x.toUInt32 >>> ((4 : Int32) &&& 31).toUInt32).toInt32).toUInt32 >>> ((2 : Int32) &&& 31).toUInt32).toInt32)), (.int (25 : Int32))] (fun t' k => XS.iloadN X0.here hx rfl (hb hby own_dn_74) rfl  k) ?_
            refine own_gs 76 [(.int (1 : Int32)), (.int ((((x.toUInt32 >>> ((4 : Int32) &&& 31).toUInt32).toInt32).toUInt32 >>> ((2 : Int32) &&& 31).toUInt32).toInt32)), (.int (25 : Int32))] (fun t' k => XS.iconst X0.here hx rfl (hb hby own_dn_75) k) ?_
            refine own_gs 77 [(.int ((((((x.toUInt32 >>> ((4 : Int32) &&& 31).toUInt32).toInt32).toUInt32 >>> ((2 : Int32) &&& 31).toUInt32).toInt32).toUInt32 >>> ((1 : Int32) &&& 31).toUInt32).toInt32)), (.int (25 : Int32))] (fun t' k => XS.iushr X0.here hx rfl (hb hby own_dn_76) rfl k) ?_
            refine own_gs 78 [(.int ((25 : Int32) - ((((((x.toUInt32 >>> ((4 : Int32) &&& 31).toUInt32).toInt32).toUInt32 >>> ((2 : Int32) &&& 31).toUInt32).toInt32).toUInt32 >>> ((1 : Int32) &&& 31).toUInt32).toInt32)))] (fun t' k => XS.isub X0.here hx rfl (hb hby own_dn_77) rfl k) ?_
            refine own_retI X0 hx hlk hret (hb hby own_dn_78) ?_ (by decide) (by decide)
            exact ⟨congrArg (fun z => some (Value.int z)) ((show (own_nlz x) = ((25 : Int32) - ((((((x.toUInt32 >>> ((4 : Int32) &&& 31).toUInt32).toInt32).toUInt32 >>> ((2 : Int32) &&& 31).toUInt32).toInt32).toUInt32 >>> ((1 : Int32) &&& 31).toUInt32).toInt32)) from ((if_pos hc1).trans ((if_pos hc22).trans ((if_pos hc37).trans ((if_neg hc51).trans ((if_neg hc63).trans rfl)))))).trans (by rfl : ((25 : Int32) - ((((((x.toUInt32 >>> ((4 : Int32) &&& 31).toUInt32).toInt32).toUInt32 >>> ((2 : Int32) &&& 31).toUInt32).toInt32).toUInt32 >>> ((1 : Int32) &&& 31).toUInt32).toInt32)) = ((25 : Int32) - ((((((x.toUInt32 >>> ((4 : Int32) &&& 31).toUInt32).toInt32).toUInt32 >>> ((2 : Int32) &&& 31).toUInt32).toInt32).toUInt32 >>> ((1 : Int32) &&& 31).toUInt32).toInt32)))).symm, e0, rfl⟩
      · skip
        refine own_gs 40 [] (fun t' k => XS.icmpNo X0.here hx rfl (hb hby own_dn_37) rfl (flt hc37).1 k) ?_
        refine own_go (mkF m 43 #[iv x, iv (23 : Int32)] []) (fun t' k => XS.iinc X0.here hx rfl (hb hby own_dn_40) rfl rfl k) ?_
        refine own_gs 44 [(.int x)] (fun t' k => XS.iloadN X0.here hx rfl (hb hby own_dn_43) rfl  k) ?_
        refine own_gs 46 [(.int (8 : Int32)), (.int x)] (fun t' k => XS.bipush X0.here hx rfl (hb hby own_dn_44) k) ?_
        refine own_gs 47 [(.int ((x.toUInt32 >>> ((8 : Int32) &&& 31).toUInt32).toInt32))] (fun t' k => XS.iushr X0.here hx rfl (hb hby own_dn_46) rfl k) ?_
        refine own_go (mkF m 48 #[iv ((x.toUInt32 >>> ((8 : Int32) &&& 31).toUInt32).toInt32), iv (23 : Int32)] []) (fun t' k => XS.istoreN X0.here hx rfl (hb hby own_dn_47) rfl rfl k) ?_
        refine own_gs 49 [(.int ((x.toUInt32 >>> ((8 : Int32) &&& 31).toUInt32).toInt32))] (fun t' k => XS.iloadN X0.here hx rfl (hb hby own_dn_48) rfl  k) ?_
        refine own_gs 51 [(.int (16 : Int32)), (.int ((x.toUInt32 >>> ((8 : Int32) &&& 31).toUInt32).toInt32))] (fun t' k => XS.bipush X0.here hx rfl (hb hby own_dn_49) k) ?_
        by_cases hc51 : ((x.toUInt32 >>> ((8 : Int32) &&& 31).toUInt32).toInt32) < (16 : Int32)
        · skip
          refine own_gs 61 [] (fun t' k => XS.icmpYes X0.here hx rfl (pc0 := 51) (pc' := 61) rfl (hb hby own_dn_51) rfl (tlt hc51).1 (by decide) (by decide) k) ?_
          refine own_gs 62 [(.int ((x.toUInt32 >>> ((8 : Int32) &&& 31).toUInt32).toInt32))] (fun t' k => XS.iloadN X0.here hx rfl (hb hby own_dn_61) rfl  k) ?_
          refine own_gs 63 [(.int (4 : Int32)), (.int ((x.toUInt32 >>> ((8 : Int32) &&& 31).toUInt32).toInt32))] (fun t' k => XS.iconst X0.here hx rfl (hb hby own_dn_62) k) ?_
          by_cases hc63 : ((x.toUInt32 >>> ((8 : Int32) &&& 31).toUInt32).toInt32) < (4 : Int32)
          · skip
            refine own_gs 73 [] (fun t' k => XS.icmpYes X0.here hx rfl (pc0 := 63) (pc' := 73) rfl (hb hby own_dn_63) rfl (tlt hc63).1 (by decide) (by decide) k) ?_
            refine own_gs 74 [(.int (23 : Int32))] (fun t' k => XS.iloadN X0.here hx rfl (hb hby own_dn_73) rfl  k) ?_
            refine own_gs 75 [(.int ((x.toUInt32 >>> ((8 : Int32) &&& 31).toUInt32).toInt32)), (.int (23 : Int32))] (fun t' k => XS.iloadN X0.here hx rfl (hb hby own_dn_74) rfl  k) ?_
            refine own_gs 76 [(.int (1 : Int32)), (.int ((x.toUInt32 >>> ((8 : Int32) &&& 31).toUInt32).toInt32)), (.int (23 : Int32))] (fun t' k => XS.iconst X0.here hx rfl (hb hby own_dn_75) k) ?_
            refine own_gs 77 [(.int ((((x.toUInt32 >>> ((8 : Int32) &&& 31).toUInt32).toInt32).toUInt32 >>> ((1 : Int32) &&& 31).toUInt32).toInt32)), (.int (23 : Int32))] (fun t' k => XS.iushr X0.here hx rfl (hb hby own_dn_76) rfl k) ?_
            refine own_gs 78 [(.int ((23 : Int32) - ((((x.toUInt32 >>> ((8 : Int32) &&& 31).toUInt32).toInt32).toUInt32 >>> ((1 : Int32) &&& 31).toUInt32).toInt32)))] (fun t' k => XS.isub X0.here hx rfl (hb hby own_dn_77) rfl k) ?_
            refine own_retI X0 hx hlk hret (hb hby own_dn_78) ?_ (by decide) (by decide)
            exact ⟨congrArg (fun z => some (Value.int z)) ((show (own_nlz x) = ((23 : Int32) - ((((x.toUInt32 >>> ((8 : Int32) &&& 31).toUInt32).toInt32).toUInt32 >>> ((1 : Int32) &&& 31).toUInt32).toInt32)) from ((if_pos hc1).trans ((if_pos hc22).trans ((if_neg hc37).trans ((if_pos hc51).trans ((if_pos hc63).trans rfl)))))).trans (by rfl : ((23 : Int32) - ((((x.toUInt32 >>> ((8 : Int32) &&& 31).toUInt32).toInt32).toUInt32 >>> ((1 : Int32) &&& 31).toUInt32).toInt32)) = ((23 : Int32) - ((((x.toUInt32 >>> ((8 : Int32) &&& 31).toUInt32).toInt32).toUInt32 >>> ((1 : Int32) &&& 31).toUInt32).toInt32)))).symm, e0, rfl⟩
          · skip
            refine own_gs 66 [] (fun t' k => XS.icmpNo X0.here hx rfl (hb hby own_dn_63) rfl (flt hc63).1 k) ?_
            refine own_go (mkF m 69 #[iv ((x.toUInt32 >>> ((8 : Int32) &&& 31).toUInt32).toInt32), iv (21 : Int32)] []) (fun t' k => XS.iinc X0.here hx rfl (hb hby own_dn_66) rfl rfl k) ?_
            refine own_gs 70 [(.int ((x.toUInt32 >>> ((8 : Int32) &&& 31).toUInt32).toInt32))] (fun t' k => XS.iloadN X0.here hx rfl (hb hby own_dn_69) rfl  k) ?_
            refine own_gs 71 [(.int (2 : Int32)), (.int ((x.toUInt32 >>> ((8 : Int32) &&& 31).toUInt32).toInt32))] (fun t' k => XS.iconst X0.here hx rfl (hb hby own_dn_70) k) ?_
            refine own_gs 72 [(.int ((((x.toUInt32 >>> ((8 : Int32) &&& 31).toUInt32).toInt32).toUInt32 >>> ((2 : Int32) &&& 31).toUInt32).toInt32))] (fun t' k => XS.iushr X0.here hx rfl (hb hby own_dn_71) rfl k) ?_
            refine own_go (mkF m 73 #[iv ((((x.toUInt32 >>> ((8 : Int32) &&& 31).toUInt32).toInt32).toUInt32 >>> ((2 : Int32) &&& 31).toUInt32).toInt32), iv (21 : Int32)] []) (fun t' k => XS.istoreN X0.here hx rfl (hb hby own_dn_72) rfl rfl k) ?_
            refine own_gs 74 [(.int (21 : Int32))] (fun t' k => XS.iloadN X0.here hx rfl (hb hby own_dn_73) rfl  k) ?_
            refine own_gs 75 [(.int ((((x.toUInt32 >>> ((8 : Int32) &&& 31).toUInt32).toInt32).toUInt32 >>> ((2 : Int32) &&& 31).toUInt32).toInt32)), (.int (21 : Int32))] (fun t' k => XS.iloadN X0.here hx rfl (hb hby own_dn_74) rfl  k) ?_
            refine own_gs 76 [(.int (1 : Int32)), (.int ((((x.toUInt32 >>> ((8 : Int32) &&& 31).toUInt32).toInt32).toUInt32 >>> ((2 : Int32) &&& 31).toUInt32).toInt32)), (.int (21 : Int32))] (fun t' k => XS.iconst X0.here hx rfl (hb hby own_dn_75) k) ?_
            refine own_gs 77 [(.int ((((((x.toUInt32 >>> ((8 : Int32) &&& 31).toUInt32).toInt32).toUInt32 >>> ((2 : Int32) &&& 31).toUInt32).toInt32).toUInt32 >>> ((1 : Int32) &&& 31).toUInt32).toInt32)), (.int (21 : Int32))] (fun t' k => XS.iushr X0.here hx rfl (hb hby own_dn_76) rfl k) ?_
            refine own_gs 78 [(.int ((21 : Int32) - ((((((x.toUInt32 >>> ((8 : Int32) &&& 31).toUInt32).toInt32).toUInt32 >>> ((2 : Int32) &&& 31).toUInt32).toInt32).toUInt32 >>> ((1 : Int32) &&& 31).toUInt32).toInt32)))] (fun t' k => XS.isub X0.here hx rfl (hb hby own_dn_77) rfl k) ?_
            refine own_retI X0 hx hlk hret (hb hby own_dn_78) ?_ (by decide) (by decide)
            exact ⟨congrArg (fun z => some (Value.int z)) ((show (own_nlz x) = ((21 : Int32) - ((((((x.toUInt32 >>> ((8 : Int32) &&& 31).toUInt32).toInt32).toUInt32 >>> ((2 : Int32) &&& 31).toUInt32).toInt32).toUInt32 >>> ((1 : Int32) &&& 31).toUInt32).toInt32)) from ((if_pos hc1).trans ((if_pos hc22).trans ((if_neg hc37).trans ((if_pos hc51).trans ((if_neg hc63).trans rfl)))))).trans (by rfl : ((21 : Int32) - ((((((x.toUInt32 >>> ((8 : Int32) &&& 31).toUInt32).toInt32).toUInt32 >>> ((2 : Int32) &&& 31).toUInt32).toInt32).toUInt32 >>> ((1 : Int32) &&& 31).toUInt32).toInt32)) = ((21 : Int32) - ((((((x.toUInt32 >>> ((8 : Int32) &&& 31).toUInt32).toInt32).toUInt32 >>> ((2 : Int32) &&& 31).toUInt32).toInt32).toUInt32 >>> ((1 : Int32) &&& 31).toUInt32).toInt32)))).symm, e0, rfl⟩
        · skip
          refine own_gs 54 [] (fun t' k => XS.icmpNo X0.here hx rfl (hb hby own_dn_51) rfl (flt hc51).1 k) ?_
          refine own_go (mkF m 57 #[iv ((x.toUInt32 >>> ((8 : Int32) &&& 31).toUInt32).toInt32), iv (19 : Int32)] []) (fun t' k => XS.iinc X0.here hx rfl (hb hby own_dn_54) rfl rfl k) ?_
          refine own_gs 58 [(.int ((x.toUInt32 >>> ((8 : Int32) &&& 31).toUInt32).toInt32))] (fun t' k => XS.iloadN X0.here hx rfl (hb hby own_dn_57) rfl  k) ?_
          refine own_gs 59 [(.int (4 : Int32)), (.int ((x.toUInt32 >>> ((8 : Int32) &&& 31).toUInt32).toInt32))] (fun t' k => XS.iconst X0.here hx rfl (hb hby own_dn_58) k) ?_
          refine own_gs 60 [(.int ((((x.toUInt32 >>> ((8 : Int32) &&& 31).toUInt32).toInt32).toUInt32 >>> ((4 : Int32) &&& 31).toUInt32).toInt32))] (fun t' k => XS.iushr X0.here hx rfl (hb hby own_dn_59) rfl k) ?_
          refine own_go (mkF m 61 #[iv ((((x.toUInt32 >>> ((8 : Int32) &&& 31).toUInt32).toInt32).toUInt32 >>> ((4 : Int32) &&& 31).toUInt32).toInt32), iv (19 : Int32)] []) (fun t' k => XS.istoreN X0.here hx rfl (hb hby own_dn_60) rfl rfl k) ?_
          refine own_gs 62 [(.int ((((x.toUInt32 >>> ((8 : Int32) &&& 31).toUInt32).toInt32).toUInt32 >>> ((4 : Int32) &&& 31).toUInt32).toInt32))] (fun t' k => XS.iloadN X0.here hx rfl (hb hby own_dn_61) rfl  k) ?_
          refine own_gs 63 [(.int (4 : Int32)), (.int ((((x.toUInt32 >>> ((8 : Int32) &&& 31).toUInt32).toInt32).toUInt32 >>> ((4 : Int32) &&& 31).toUInt32).toInt32))] (fun t' k => XS.iconst X0.here hx rfl (hb hby own_dn_62) k) ?_
          by_cases hc63 : ((((x.toUInt32 >>> ((8 : Int32) &&& 31).toUInt32).toInt32).toUInt32 >>> ((4 : Int32) &&& 31).toUInt32).toInt32) < (4 : Int32)
          · skip
            refine own_gs 73 [] (fun t' k => XS.icmpYes X0.here hx rfl (pc0 := 63) (pc' := 73) rfl (hb hby own_dn_63) rfl (tlt hc63).1 (by decide) (by decide) k) ?_
            refine own_gs 74 [(.int (19 : Int32))] (fun t' k => XS.iloadN X0.here hx rfl (hb hby own_dn_73) rfl  k) ?_
            refine own_gs 75 [(.int ((((x.toUInt32 >>> ((8 : Int32) &&& 31).toUInt32).toInt32).toUInt32 >>> ((4 : Int32) &&& 31).toUInt32).toInt32)), (.int (19 : Int32))] (fun t' k => XS.iloadN X0.here hx rfl (hb hby own_dn_74) rfl  k) ?_
            refine own_gs 76 [(.int (1 : Int32)), (.int ((((x.toUInt32 >>> ((8 : Int32) &&& 31).toUInt32).toInt32).toUInt32 >>> ((4 : Int32) &&& 31).toUInt32).toInt32)), (.int (19 : Int32))] (fun t' k => XS.iconst X0.here hx rfl (hb hby own_dn_75) k) ?_
            refine own_gs 77 [(.int ((((((x.toUInt32 >>> ((8 : Int32) &&& 31).toUInt32).toInt32).toUInt32 >>> ((4 : Int32) &&& 31).toUInt32).toInt32).toUInt32 >>> ((1 : Int32) &&& 31).toUInt32).toInt32)), (.int (19 : Int32))] (fun t' k => XS.iushr X0.here hx rfl (hb hby own_dn_76) rfl k) ?_
            refine own_gs 78 [(.int ((19 : Int32) - ((((((x.toUInt32 >>> ((8 : Int32) &&& 31).toUInt32).toInt32).toUInt32 >>> ((4 : Int32) &&& 31).toUInt32).toInt32).toUInt32 >>> ((1 : Int32) &&& 31).toUInt32).toInt32)))] (fun t' k => XS.isub X0.here hx rfl (hb hby own_dn_77) rfl k) ?_
            refine own_retI X0 hx hlk hret (hb hby own_dn_78) ?_ (by decide) (by decide)
            exact ⟨congrArg (fun z => some (Value.int z)) ((show (own_nlz x) = ((19 : Int32) - ((((((x.toUInt32 >>> ((8 : Int32) &&& 31).toUInt32).toInt32).toUInt32 >>> ((4 : Int32) &&& 31).toUInt32).toInt32).toUInt32 >>> ((1 : Int32) &&& 31).toUInt32).toInt32)) from ((if_pos hc1).trans ((if_pos hc22).trans ((if_neg hc37).trans ((if_neg hc51).trans ((if_pos hc63).trans rfl)))))).trans (by rfl : ((19 : Int32) - ((((((x.toUInt32 >>> ((8 : Int32) &&& 31).toUInt32).toInt32).toUInt32 >>> ((4 : Int32) &&& 31).toUInt32).toInt32).toUInt32 >>> ((1 : Int32) &&& 31).toUInt32).toInt32)) = ((19 : Int32) - ((((((x.toUInt32 >>> ((8 : Int32) &&& 31).toUInt32).toInt32).toUInt32 >>> ((4 : Int32) &&& 31).toUInt32).toInt32).toUInt32 >>> ((1 : Int32) &&& 31).toUInt32).toInt32)))).symm, e0, rfl⟩
          · skip
            refine own_gs 66 [] (fun t' k => XS.icmpNo X0.here hx rfl (hb hby own_dn_63) rfl (flt hc63).1 k) ?_
            refine own_go (mkF m 69 #[iv ((((x.toUInt32 >>> ((8 : Int32) &&& 31).toUInt32).toInt32).toUInt32 >>> ((4 : Int32) &&& 31).toUInt32).toInt32), iv (17 : Int32)] []) (fun t' k => XS.iinc X0.here hx rfl (hb hby own_dn_66) rfl rfl k) ?_
            refine own_gs 70 [(.int ((((x.toUInt32 >>> ((8 : Int32) &&& 31).toUInt32).toInt32).toUInt32 >>> ((4 : Int32) &&& 31).toUInt32).toInt32))] (fun t' k => XS.iloadN X0.here hx rfl (hb hby own_dn_69) rfl  k) ?_
            refine own_gs 71 [(.int (2 : Int32)), (.int ((((x.toUInt32 >>> ((8 : Int32) &&& 31).toUInt32).toInt32).toUInt32 >>> ((4 : Int32) &&& 31).toUInt32).toInt32))] (fun t' k => XS.iconst X0.here hx rfl (hb hby own_dn_70) k) ?_
            refine own_gs 72 [(.int ((((((x.toUInt32 >>> ((8 : Int32) &&& 31).toUInt32).toInt32).toUInt32 >>> ((4 : Int32) &&& 31).toUInt32).toInt32).toUInt32 >>> ((2 : Int32) &&& 31).toUInt32).toInt32))] (fun t' k => XS.iushr X0.here hx rfl (hb hby own_dn_71) rfl k) ?_
            refine own_go (mkF m 73 #[iv ((((((x.toUInt32 >>> ((8 : Int32) &&& 31).toUInt32).toInt32).toUInt32 >>> ((4 : Int32) &&& 31).toUInt32).toInt32).toUInt32 >>> ((2 : Int32) &&& 31).toUInt32).toInt32), iv (17 : Int32)] []) (fun t' k => XS.istoreN X0.here hx rfl (hb hby own_dn_72) rfl rfl k) ?_
            refine own_gs 74 [(.int (17 : Int32))] (fun t' k => XS.iloadN X0.here hx rfl (hb hby own_dn_73) rfl  k) ?_
            refine own_gs 75 [(.int ((((((x.toUInt32 >>> ((8 : Int32) &&& 31).toUInt32).toInt32).toUInt32 >>> ((4 : Int32) &&& 31).toUInt32).toInt32).toUInt32 >>> ((2 : Int32) &&& 31).toUInt32).toInt32)), (.int (17 : Int32))] (fun t' k => XS.iloadN X0.here hx rfl (hb hby own_dn_74) rfl  k) ?_
            refine own_gs 76 [(.int (1 : Int32)), (.int ((((((x.toUInt32 >>> ((8 : Int32) &&& 31).toUInt32).toInt32).toUInt32 >>> ((4 : Int32) &&& 31).toUInt32).toInt32).toUInt32 >>> ((2 : Int32) &&& 31).toUInt32).toInt32)), (.int (17 : Int32))] (fun t' k => XS.iconst X0.here hx rfl (hb hby own_dn_75) k) ?_
            refine own_gs 77 [(.int ((((((((x.toUInt32 >>> ((8 : Int32) &&& 31).toUInt32).toInt32).toUInt32 >>> ((4 : Int32) &&& 31).toUInt32).toInt32).toUInt32 >>> ((2 : Int32) &&& 31).toUInt32).toInt32).toUInt32 >>> ((1 : Int32) &&& 31).toUInt32).toInt32)), (.int (17 : Int32))] (fun t' k => XS.iushr X0.here hx rfl (hb hby own_dn_76) rfl k) ?_
            refine own_gs 78 [(.int ((17 : Int32) - ((((((((x.toUInt32 >>> ((8 : Int32) &&& 31).toUInt32).toInt32).toUInt32 >>> ((4 : Int32) &&& 31).toUInt32).toInt32).toUInt32 >>> ((2 : Int32) &&& 31).toUInt32).toInt32).toUInt32 >>> ((1 : Int32) &&& 31).toUInt32).toInt32)))] (fun t' k => XS.isub X0.here hx rfl (hb hby own_dn_77) rfl k) ?_
            refine own_retI X0 hx hlk hret (hb hby own_dn_78) ?_ (by decide) (by decide)
            exact ⟨congrArg (fun z => some (Value.int z)) ((show (own_nlz x) = ((17 : Int32) - ((((((((x.toUInt32 >>> ((8 : Int32) &&& 31).toUInt32).toInt32).toUInt32 >>> ((4 : Int32) &&& 31).toUInt32).toInt32).toUInt32 >>> ((2 : Int32) &&& 31).toUInt32).toInt32).toUInt32 >>> ((1 : Int32) &&& 31).toUInt32).toInt32)) from ((if_pos hc1).trans ((if_pos hc22).trans ((if_neg hc37).trans ((if_neg hc51).trans ((if_neg hc63).trans rfl)))))).trans (by rfl : ((17 : Int32) - ((((((((x.toUInt32 >>> ((8 : Int32) &&& 31).toUInt32).toInt32).toUInt32 >>> ((4 : Int32) &&& 31).toUInt32).toInt32).toUInt32 >>> ((2 : Int32) &&& 31).toUInt32).toInt32).toUInt32 >>> ((1 : Int32) &&& 31).toUInt32).toInt32)) = ((17 : Int32) - ((((((((x.toUInt32 >>> ((8 : Int32) &&& 31).toUInt32).toInt32).toUInt32 >>> ((4 : Int32) &&& 31).toUInt32).toInt32).toUInt32 >>> ((2 : Int32) &&& 31).toUInt32).toInt32).toUInt32 >>> ((1 : Int32) &&& 31).toUInt32).toInt32)))).symm, e0, rfl⟩
    · skip
      refine own_gs 25 [] (fun t' k => XS.icmpNo X0.here hx rfl (hb hby own_dn_22) rfl (flt hc22).1 k) ?_
      refine own_go (mkF m 28 #[iv x, iv (15 : Int32)] []) (fun t' k => XS.iinc X0.here hx rfl (hb hby own_dn_25) rfl rfl k) ?_
      refine own_gs 29 [(.int x)] (fun t' k => XS.iloadN X0.here hx rfl (hb hby own_dn_28) rfl  k) ?_
      refine own_gs 31 [(.int (16 : Int32)), (.int x)] (fun t' k => XS.bipush X0.here hx rfl (hb hby own_dn_29) k) ?_
      refine own_gs 32 [(.int ((x.toUInt32 >>> ((16 : Int32) &&& 31).toUInt32).toInt32))] (fun t' k => XS.iushr X0.here hx rfl (hb hby own_dn_31) rfl k) ?_
      refine own_go (mkF m 33 #[iv ((x.toUInt32 >>> ((16 : Int32) &&& 31).toUInt32).toInt32), iv (15 : Int32)] []) (fun t' k => XS.istoreN X0.here hx rfl (hb hby own_dn_32) rfl rfl k) ?_
      refine own_gs 34 [(.int ((x.toUInt32 >>> ((16 : Int32) &&& 31).toUInt32).toInt32))] (fun t' k => XS.iloadN X0.here hx rfl (hb hby own_dn_33) rfl  k) ?_
      refine own_gs 37 [(.int (256 : Int32)), (.int ((x.toUInt32 >>> ((16 : Int32) &&& 31).toUInt32).toInt32))] (fun t' k => XS.sipush X0.here hx rfl (hb hby own_dn_34) k) ?_
      by_cases hc37 : ((x.toUInt32 >>> ((16 : Int32) &&& 31).toUInt32).toInt32) < (256 : Int32)
      · skip
        refine own_gs 48 [] (fun t' k => XS.icmpYes X0.here hx rfl (pc0 := 37) (pc' := 48) rfl (hb hby own_dn_37) rfl (tlt hc37).1 (by decide) (by decide) k) ?_
        refine own_gs 49 [(.int ((x.toUInt32 >>> ((16 : Int32) &&& 31).toUInt32).toInt32))] (fun t' k => XS.iloadN X0.here hx rfl (hb hby own_dn_48) rfl  k) ?_
        refine own_gs 51 [(.int (16 : Int32)), (.int ((x.toUInt32 >>> ((16 : Int32) &&& 31).toUInt32).toInt32))] (fun t' k => XS.bipush X0.here hx rfl (hb hby own_dn_49) k) ?_
        by_cases hc51 : ((x.toUInt32 >>> ((16 : Int32) &&& 31).toUInt32).toInt32) < (16 : Int32)
        · skip
          refine own_gs 61 [] (fun t' k => XS.icmpYes X0.here hx rfl (pc0 := 51) (pc' := 61) rfl (hb hby own_dn_51) rfl (tlt hc51).1 (by decide) (by decide) k) ?_
          refine own_gs 62 [(.int ((x.toUInt32 >>> ((16 : Int32) &&& 31).toUInt32).toInt32))] (fun t' k => XS.iloadN X0.here hx rfl (hb hby own_dn_61) rfl  k) ?_
          refine own_gs 63 [(.int (4 : Int32)), (.int ((x.toUInt32 >>> ((16 : Int32) &&& 31).toUInt32).toInt32))] (fun t' k => XS.iconst X0.here hx rfl (hb hby own_dn_62) k) ?_
          by_cases hc63 : ((x.toUInt32 >>> ((16 : Int32) &&& 31).toUInt32).toInt32) < (4 : Int32)
          · skip
            refine own_gs 73 [] (fun t' k => XS.icmpYes X0.here hx rfl (pc0 := 63) (pc' := 73) rfl (hb hby own_dn_63) rfl (tlt hc63).1 (by decide) (by decide) k) ?_
            refine own_gs 74 [(.int (15 : Int32))] (fun t' k => XS.iloadN X0.here hx rfl (hb hby own_dn_73) rfl  k) ?_
            refine own_gs 75 [(.int ((x.toUInt32 >>> ((16 : Int32) &&& 31).toUInt32).toInt32)), (.int (15 : Int32))] (fun t' k => XS.iloadN X0.here hx rfl (hb hby own_dn_74) rfl  k) ?_
            refine own_gs 76 [(.int (1 : Int32)), (.int ((x.toUInt32 >>> ((16 : Int32) &&& 31).toUInt32).toInt32)), (.int (15 : Int32))] (fun t' k => XS.iconst X0.here hx rfl (hb hby own_dn_75) k) ?_
            refine own_gs 77 [(.int ((((x.toUInt32 >>> ((16 : Int32) &&& 31).toUInt32).toInt32).toUInt32 >>> ((1 : Int32) &&& 31).toUInt32).toInt32)), (.int (15 : Int32))] (fun t' k => XS.iushr X0.here hx rfl (hb hby own_dn_76) rfl k) ?_
            refine own_gs 78 [(.int ((15 : Int32) - ((((x.toUInt32 >>> ((16 : Int32) &&& 31).toUInt32).toInt32).toUInt32 >>> ((1 : Int32) &&& 31).toUInt32).toInt32)))] (fun t' k => XS.isub X0.here hx rfl (hb hby own_dn_77) rfl k) ?_
            refine own_retI X0 hx hlk hret (hb hby own_dn_78) ?_ (by decide) (by decide)
            exact ⟨congrArg (fun z => some (Value.int z)) ((show (own_nlz x) = ((15 : Int32) - ((((x.toUInt32 >>> ((16 : Int32) &&& 31).toUInt32).toInt32).toUInt32 >>> ((1 : Int32) &&& 31).toUInt32).toInt32)) from ((if_pos hc1).trans ((if_neg hc22).trans ((if_pos hc37).trans ((if_pos hc51).trans ((if_pos hc63).trans rfl)))))).trans (by rfl : ((15 : Int32) - ((((x.toUInt32 >>> ((16 : Int32) &&& 31).toUInt32).toInt32).toUInt32 >>> ((1 : Int32) &&& 31).toUInt32).toInt32)) = ((15 : Int32) - ((((x.toUInt32 >>> ((16 : Int32) &&& 31).toUInt32).toInt32).toUInt32 >>> ((1 : Int32) &&& 31).toUInt32).toInt32)))).symm, e0, rfl⟩
          · skip
            refine own_gs 66 [] (fun t' k => XS.icmpNo X0.here hx rfl (hb hby own_dn_63) rfl (flt hc63).1 k) ?_
            refine own_go (mkF m 69 #[iv ((x.toUInt32 >>> ((16 : Int32) &&& 31).toUInt32).toInt32), iv (13 : Int32)] []) (fun t' k => XS.iinc X0.here hx rfl (hb hby own_dn_66) rfl rfl k) ?_
            refine own_gs 70 [(.int ((x.toUInt32 >>> ((16 : Int32) &&& 31).toUInt32).toInt32))] (fun t' k => XS.iloadN X0.here hx rfl (hb hby own_dn_69) rfl  k) ?_
            refine own_gs 71 [(.int (2 : Int32)), (.int ((x.toUInt32 >>> ((16 : Int32) &&& 31).toUInt32).toInt32))] (fun t' k => XS.iconst X0.here hx rfl (hb hby own_dn_70) k) ?_
            refine own_gs 72 [(.int ((((x.toUInt32 >>> ((16 : Int32) &&& 31).toUInt32).toInt32).toUInt32 >>> ((2 : Int32) &&& 31).toUInt32).toInt32))] (fun t' k => XS.iushr X0.here hx rfl (hb hby own_dn_71) rfl k) ?_
            refine own_go (mkF m 73 #[iv ((((x.toUInt32 >>> ((16 : Int32) &&& 31).toUInt32).toInt32).toUInt32 >>> ((2 : Int32) &&& 31).toUInt32).toInt32), iv (13 : Int32)] []) (fun t' k => XS.istoreN X0.here hx rfl (hb hby own_dn_72) rfl rfl k) ?_
            refine own_gs 74 [(.int (13 : Int32))] (fun t' k => XS.iloadN X0.here hx rfl (hb hby own_dn_73) rfl  k) ?_
            refine own_gs 75 [(.int ((((x.toUInt32 >>> ((16 : Int32) &&& 31).toUInt32).toInt32).toUInt32 >>> ((2 : Int32) &&& 31).toUInt32).toInt32)), (.int (13 : Int32))] (fun t' k => XS.iloadN X0.here hx rfl (hb hby own_dn_74) rfl  k) ?_
            refine own_gs 76 [(.int (1 : Int32)), (.int ((((x.toUInt32 >>> ((16 : Int32) &&& 31).toUInt32).toInt32).toUInt32 >>> ((2 : Int32) &&& 31).toUInt32).toInt32)), (.int (13 : Int32))] (fun t' k => XS.iconst X0.here hx rfl (hb hby own_dn_75) k) ?_
            refine own_gs 77 [(.int ((((((x.toUInt32 >>> ((16 : Int32) &&& 31).toUInt32).toInt32).toUInt32 >>> ((2 : Int32) &&& 31).toUInt32).toInt32).toUInt32 >>> ((1 : Int32) &&& 31).toUInt32).toInt32)), (.int (13 : Int32))] (fun t' k => XS.iushr X0.here hx rfl (hb hby own_dn_76) rfl k) ?_
            refine own_gs 78 [(.int ((13 : Int32) - ((((((x.toUInt32 >>> ((16 : Int32) &&& 31).toUInt32).toInt32).toUInt32 >>> ((2 : Int32) &&& 31).toUInt32).toInt32).toUInt32 >>> ((1 : Int32) &&& 31).toUInt32).toInt32)))] (fun t' k => XS.isub X0.here hx rfl (hb hby own_dn_77) rfl k) ?_
            refine own_retI X0 hx hlk hret (hb hby own_dn_78) ?_ (by decide) (by decide)
            exact ⟨congrArg (fun z => some (Value.int z)) ((show (own_nlz x) = ((13 : Int32) - ((((((x.toUInt32 >>> ((16 : Int32) &&& 31).toUInt32).toInt32).toUInt32 >>> ((2 : Int32) &&& 31).toUInt32).toInt32).toUInt32 >>> ((1 : Int32) &&& 31).toUInt32).toInt32)) from ((if_pos hc1).trans ((if_neg hc22).trans ((if_pos hc37).trans ((if_pos hc51).trans ((if_neg hc63).trans rfl)))))).trans (by rfl : ((13 : Int32) - ((((((x.toUInt32 >>> ((16 : Int32) &&& 31).toUInt32).toInt32).toUInt32 >>> ((2 : Int32) &&& 31).toUInt32).toInt32).toUInt32 >>> ((1 : Int32) &&& 31).toUInt32).toInt32)) = ((13 : Int32) - ((((((x.toUInt32 >>> ((16 : Int32) &&& 31).toUInt32).toInt32).toUInt32 >>> ((2 : Int32) &&& 31).toUInt32).toInt32).toUInt32 >>> ((1 : Int32) &&& 31).toUInt32).toInt32)))).symm, e0, rfl⟩
        · skip
          refine own_gs 54 [] (fun t' k => XS.icmpNo X0.here hx rfl (hb hby own_dn_51) rfl (flt hc51).1 k) ?_
          refine own_go (mkF m 57 #[iv ((x.toUInt32 >>> ((16 : Int32) &&& 31).toUInt32).toInt32), iv (11 : Int32)] []) (fun t' k => XS.iinc X0.here hx rfl (hb hby own_dn_54) rfl rfl k) ?_
          refine own_gs 58 [(.int ((x.toUInt32 >>> ((16 : Int32) &&& 31).toUInt32).toInt32))] (fun t' k => XS.iloadN X0.here hx rfl (hb hby own_dn_57) rfl  k) ?_
          refine own_gs 59 [(.int (4 : Int32)), (.int ((x.toUInt32 >>> ((16 : Int32) &&& 31).toUInt32).toInt32))] (fun t' k => XS.iconst X0.here hx rfl (hb hby own_dn_58) k) ?_
          refine own_gs 60 [(.int ((((x.toUInt32 >>> ((16 : Int32) &&& 31).toUInt32).toInt32).toUInt32 >>> ((4 : Int32) &&& 31).toUInt32).toInt32))] (fun t' k => XS.iushr X0.here hx rfl (hb hby own_dn_59) rfl k) ?_
          refine own_go (mkF m 61 #[iv ((((x.toUInt32 >>> ((16 : Int32) &&& 31).toUInt32).toInt32).toUInt32 >>> ((4 : Int32) &&& 31).toUInt32).toInt32), iv (11 : Int32)] []) (fun t' k => XS.istoreN X0.here hx rfl (hb hby own_dn_60) rfl rfl k) ?_
          refine own_gs 62 [(.int ((((x.toUInt32 >>> ((16 : Int32) &&& 31).toUInt32).toInt32).toUInt32 >>> ((4 : Int32) &&& 31).toUInt32).toInt32))] (fun t' k => XS.iloadN X0.here hx rfl (hb hby own_dn_61) rfl  k) ?_
          refine own_gs 63 [(.int (4 : Int32)), (.int ((((x.toUInt32 >>> ((16 : Int32) &&& 31).toUInt32).toInt32).toUInt32 >>> ((4 : Int32) &&& 31).toUInt32).toInt32))] (fun t' k => XS.iconst X0.here hx rfl (hb hby own_dn_62) k) ?_
          by_cases hc63 : ((((x.toUInt32 >>> ((16 : Int32) &&& 31).toUInt32).toInt32).toUInt32 >>> ((4 : Int32) &&& 31).toUInt32).toInt32) < (4 : Int32)
          · skip
            refine own_gs 73 [] (fun t' k => XS.icmpYes X0.here hx rfl (pc0 := 63) (pc' := 73) rfl (hb hby own_dn_63) rfl (tlt hc63).1 (by decide) (by decide) k) ?_
            refine own_gs 74 [(.int (11 : Int32))] (fun t' k => XS.iloadN X0.here hx rfl (hb hby own_dn_73) rfl  k) ?_
            refine own_gs 75 [(.int ((((x.toUInt32 >>> ((16 : Int32) &&& 31).toUInt32).toInt32).toUInt32 >>> ((4 : Int32) &&& 31).toUInt32).toInt32)), (.int (11 : Int32))] (fun t' k => XS.iloadN X0.here hx rfl (hb hby own_dn_74) rfl  k) ?_
            refine own_gs 76 [(.int (1 : Int32)), (.int ((((x.toUInt32 >>> ((16 : Int32) &&& 31).toUInt32).toInt32).toUInt32 >>> ((4 : Int32) &&& 31).toUInt32).toInt32)), (.int (11 : Int32))] (fun t' k => XS.iconst X0.here hx rfl (hb hby own_dn_75) k) ?_
            refine own_gs 77 [(.int ((((((x.toUInt32 >>> ((16 : Int32) &&& 31).toUInt32).toInt32).toUInt32 >>> ((4 : Int32) &&& 31).toUInt32).toInt32).toUInt32 >>> ((1 : Int32) &&& 31).toUInt32).toInt32)), (.int (11 : Int32))] (fun t' k => XS.iushr X0.here hx rfl (hb hby own_dn_76) rfl k) ?_
            refine own_gs 78 [(.int ((11 : Int32) - ((((((x.toUInt32 >>> ((16 : Int32) &&& 31).toUInt32).toInt32).toUInt32 >>> ((4 : Int32) &&& 31).toUInt32).toInt32).toUInt32 >>> ((1 : Int32) &&& 31).toUInt32).toInt32)))] (fun t' k => XS.isub X0.here hx rfl (hb hby own_dn_77) rfl k) ?_
            refine own_retI X0 hx hlk hret (hb hby own_dn_78) ?_ (by decide) (by decide)
            exact ⟨congrArg (fun z => some (Value.int z)) ((show (own_nlz x) = ((11 : Int32) - ((((((x.toUInt32 >>> ((16 : Int32) &&& 31).toUInt32).toInt32).toUInt32 >>> ((4 : Int32) &&& 31).toUInt32).toInt32).toUInt32 >>> ((1 : Int32) &&& 31).toUInt32).toInt32)) from ((if_pos hc1).trans ((if_neg hc22).trans ((if_pos hc37).trans ((if_neg hc51).trans ((if_pos hc63).trans rfl)))))).trans (by rfl : ((11 : Int32) - ((((((x.toUInt32 >>> ((16 : Int32) &&& 31).toUInt32).toInt32).toUInt32 >>> ((4 : Int32) &&& 31).toUInt32).toInt32).toUInt32 >>> ((1 : Int32) &&& 31).toUInt32).toInt32)) = ((11 : Int32) - ((((((x.toUInt32 >>> ((16 : Int32) &&& 31).toUInt32).toInt32).toUInt32 >>> ((4 : Int32) &&& 31).toUInt32).toInt32).toUInt32 >>> ((1 : Int32) &&& 31).toUInt32).toInt32)))).symm, e0, rfl⟩
          · skip
            refine own_gs 66 [] (fun t' k => XS.icmpNo X0.here hx rfl (hb hby own_dn_63) rfl (flt hc63).1 k) ?_
            refine own_go (mkF m 69 #[iv ((((x.toUInt32 >>> ((16 : Int32) &&& 31).toUInt32).toInt32).toUInt32 >>> ((4 : Int32) &&& 31).toUInt32).toInt32), iv (9 : Int32)] []) (fun t' k => XS.iinc X0.here hx rfl (hb hby own_dn_66) rfl rfl k) ?_
            refine own_gs 70 [(.int ((((x.toUInt32 >>> ((16 : Int32) &&& 31).toUInt32).toInt32).toUInt32 >>> ((4 : Int32) &&& 31).toUInt32).toInt32))] (fun t' k => XS.iloadN X0.here hx rfl (hb hby own_dn_69) rfl  k) ?_
            refine own_gs 71 [(.int (2 : Int32)), (.int ((((x.toUInt32 >>> ((16 : Int32) &&& 31).toUInt32).toInt32).toUInt32 >>> ((4 : Int32) &&& 31).toUInt32).toInt32))] (fun t' k => XS.iconst X0.here hx rfl (hb hby own_dn_70) k) ?_
            refine own_gs 72 [(.int ((((((x.toUInt32 >>> ((16 : Int32) &&& 31).toUInt32).toInt32).toUInt32 >>> ((4 : Int32) &&& 31).toUInt32).toInt32).toUInt32 >>> ((2 : Int32) &&& 31).toUInt32).toInt32))] (fun t' k => XS.iushr X0.here hx rfl (hb hby own_dn_71) rfl k) ?_
            refine own_go (mkF m 73 #[iv ((((((x.toUInt32 >>> ((16 : Int32) &&& 31).toUInt32).toInt32).toUInt32 >>> ((4 : Int32) &&& 31).toUInt32).toInt32).toUInt32 >>> ((2 : Int32) &&& 31).toUInt32).toInt32), iv (9 : Int32)] []) (fun t' k => XS.istoreN X0.here hx rfl (hb hby own_dn_72) rfl rfl k) ?_
            refine own_gs 74 [(.int (9 : Int32))] (fun t' k => XS.iloadN X0.here hx rfl (hb hby own_dn_73) rfl  k) ?_
            refine own_gs 75 [(.int ((((((x.toUInt32 >>> ((16 : Int32) &&& 31).toUInt32).toInt32).toUInt32 >>> ((4 : Int32) &&& 31).toUInt32).toInt32).toUInt32 >>> ((2 : Int32) &&& 31).toUInt32).toInt32)), (.int (9 : Int32))] (fun t' k => XS.iloadN X0.here hx rfl (hb hby own_dn_74) rfl  k) ?_
            refine own_gs 76 [(.int (1 : Int32)), (.int ((((((x.toUInt32 >>> ((16 : Int32) &&& 31).toUInt32).toInt32).toUInt32 >>> ((4 : Int32) &&& 31).toUInt32).toInt32).toUInt32 >>> ((2 : Int32) &&& 31).toUInt32).toInt32)), (.int (9 : Int32))] (fun t' k => XS.iconst X0.here hx rfl (hb hby own_dn_75) k) ?_
            refine own_gs 77 [(.int ((((((((x.toUInt32 >>> ((16 : Int32) &&& 31).toUInt32).toInt32).toUInt32 >>> ((4 : Int32) &&& 31).toUInt32).toInt32).toUInt32 >>> ((2 : Int32) &&& 31).toUInt32).toInt32).toUInt32 >>> ((1 : Int32) &&& 31).toUInt32).toInt32)), (.int (9 : Int32))] (fun t' k => XS.iushr X0.here hx rfl (hb hby own_dn_76) rfl k) ?_
            refine own_gs 78 [(.int ((9 : Int32) - ((((((((x.toUInt32 >>> ((16 : Int32) &&& 31).toUInt32).toInt32).toUInt32 >>> ((4 : Int32) &&& 31).toUInt32).toInt32).toUInt32 >>> ((2 : Int32) &&& 31).toUInt32).toInt32).toUInt32 >>> ((1 : Int32) &&& 31).toUInt32).toInt32)))] (fun t' k => XS.isub X0.here hx rfl (hb hby own_dn_77) rfl k) ?_
            refine own_retI X0 hx hlk hret (hb hby own_dn_78) ?_ (by decide) (by decide)
            exact ⟨congrArg (fun z => some (Value.int z)) ((show (own_nlz x) = ((9 : Int32) - ((((((((x.toUInt32 >>> ((16 : Int32) &&& 31).toUInt32).toInt32).toUInt32 >>> ((4 : Int32) &&& 31).toUInt32).toInt32).toUInt32 >>> ((2 : Int32) &&& 31).toUInt32).toInt32).toUInt32 >>> ((1 : Int32) &&& 31).toUInt32).toInt32)) from ((if_pos hc1).trans ((if_neg hc22).trans ((if_pos hc37).trans ((if_neg hc51).trans ((if_neg hc63).trans rfl)))))).trans (by rfl : ((9 : Int32) - ((((((((x.toUInt32 >>> ((16 : Int32) &&& 31).toUInt32).toInt32).toUInt32 >>> ((4 : Int32) &&& 31).toUInt32).toInt32).toUInt32 >>> ((2 : Int32) &&& 31).toUInt32).toInt32).toUInt32 >>> ((1 : Int32) &&& 31).toUInt32).toInt32)) = ((9 : Int32) - ((((((((x.toUInt32 >>> ((16 : Int32) &&& 31).toUInt32).toInt32).toUInt32 >>> ((4 : Int32) &&& 31).toUInt32).toInt32).toUInt32 >>> ((2 : Int32) &&& 31).toUInt32).toInt32).toUInt32 >>> ((1 : Int32) &&& 31).toUInt32).toInt32)))).symm, e0, rfl⟩
      · skip
        refine own_gs 40 [] (fun t' k => XS.icmpNo X0.here hx rfl (hb hby own_dn_37) rfl (flt hc37).1 k) ?_
        refine own_go (mkF m 43 #[iv ((x.toUInt32 >>> ((16 : Int32) &&& 31).toUInt32).toInt32), iv (7 : Int32)] []) (fun t' k => XS.iinc X0.here hx rfl (hb hby own_dn_40) rfl rfl k) ?_
        refine own_gs 44 [(.int ((x.toUInt32 >>> ((16 : Int32) &&& 31).toUInt32).toInt32))] (fun t' k => XS.iloadN X0.here hx rfl (hb hby own_dn_43) rfl  k) ?_
        refine own_gs 46 [(.int (8 : Int32)), (.int ((x.toUInt32 >>> ((16 : Int32) &&& 31).toUInt32).toInt32))] (fun t' k => XS.bipush X0.here hx rfl (hb hby own_dn_44) k) ?_
        refine own_gs 47 [(.int ((((x.toUInt32 >>> ((16 : Int32) &&& 31).toUInt32).toInt32).toUInt32 >>> ((8 : Int32) &&& 31).toUInt32).toInt32))] (fun t' k => XS.iushr X0.here hx rfl (hb hby own_dn_46) rfl k) ?_
        refine own_go (mkF m 48 #[iv ((((x.toUInt32 >>> ((16 : Int32) &&& 31).toUInt32).toInt32).toUInt32 >>> ((8 : Int32) &&& 31).toUInt32).toInt32), iv (7 : Int32)] []) (fun t' k => XS.istoreN X0.here hx rfl (hb hby own_dn_47) rfl rfl k) ?_
        refine own_gs 49 [(.int ((((x.toUInt32 >>> ((16 : Int32) &&& 31).toUInt32).toInt32).toUInt32 >>> ((8 : Int32) &&& 31).toUInt32).toInt32))] (fun t' k => XS.iloadN X0.here hx rfl (hb hby own_dn_48) rfl  k) ?_
        refine own_gs 51 [(.int (16 : Int32)), (.int ((((x.toUInt32 >>> ((16 : Int32) &&& 31).toUInt32).toInt32).toUInt32 >>> ((8 : Int32) &&& 31).toUInt32).toInt32))] (fun t' k => XS.bipush X0.here hx rfl (hb hby own_dn_49) k) ?_
        by_cases hc51 : ((((x.toUInt32 >>> ((16 : Int32) &&& 31).toUInt32).toInt32).toUInt32 >>> ((8 : Int32) &&& 31).toUInt32).toInt32) < (16 : Int32)
        · skip
          refine own_gs 61 [] (fun t' k => XS.icmpYes X0.here hx rfl (pc0 := 51) (pc' := 61) rfl (hb hby own_dn_51) rfl (tlt hc51).1 (by decide) (by decide) k) ?_
          refine own_gs 62 [(.int ((((x.toUInt32 >>> ((16 : Int32) &&& 31).toUInt32).toInt32).toUInt32 >>> ((8 : Int32) &&& 31).toUInt32).toInt32))] (fun t' k => XS.iloadN X0.here hx rfl (hb hby own_dn_61) rfl  k) ?_
          refine own_gs 63 [(.int (4 : Int32)), (.int ((((x.toUInt32 >>> ((16 : Int32) &&& 31).toUInt32).toInt32).toUInt32 >>> ((8 : Int32) &&& 31).toUInt32).toInt32))] (fun t' k => XS.iconst X0.here hx rfl (hb hby own_dn_62) k) ?_
          by_cases hc63 : ((((x.toUInt32 >>> ((16 : Int32) &&& 31).toUInt32).toInt32).toUInt32 >>> ((8 : Int32) &&& 31).toUInt32).toInt32) < (4 : Int32)
          · skip
            refine own_gs 73 [] (fun t' k => XS.icmpYes X0.here hx rfl (pc0 := 63) (pc' := 73) rfl (hb hby own_dn_63) rfl (tlt hc63).1 (by decide) (by decide) k) ?_
            refine own_gs 74 [(.int (7 : Int32))] (fun t' k => XS.iloadN X0.here hx rfl (hb hby own_dn_73) rfl  k) ?_
            refine own_gs 75 [(.int ((((x.toUInt32 >>> ((16 : Int32) &&& 31).toUInt32).toInt32).toUInt32 >>> ((8 : Int32) &&& 31).toUInt32).toInt32)), (.int (7 : Int32))] (fun t' k => XS.iloadN X0.here hx rfl (hb hby own_dn_74) rfl  k) ?_
            refine own_gs 76 [(.int (1 : Int32)), (.int ((((x.toUInt32 >>> ((16 : Int32) &&& 31).toUInt32).toInt32).toUInt32 >>> ((8 : Int32) &&& 31).toUInt32).toInt32)), (.int (7 : Int32))] (fun t' k => XS.iconst X0.here hx rfl (hb hby own_dn_75) k) ?_
            refine own_gs 77 [(.int ((((((x.toUInt32 >>> ((16 : Int32) &&& 31).toUInt32).toInt32).toUInt32 >>> ((8 : Int32) &&& 31).toUInt32).toInt32).toUInt32 >>> ((1 : Int32) &&& 31).toUInt32).toInt32)), (.int (7 : Int32))] (fun t' k => XS.iushr X0.here hx rfl (hb hby own_dn_76) rfl k) ?_
            refine own_gs 78 [(.int ((7 : Int32) - ((((((x.toUInt32 >>> ((16 : Int32) &&& 31).toUInt32).toInt32).toUInt32 >>> ((8 : Int32) &&& 31).toUInt32).toInt32).toUInt32 >>> ((1 : Int32) &&& 31).toUInt32).toInt32)))] (fun t' k => XS.isub X0.here hx rfl (hb hby own_dn_77) rfl k) ?_
            refine own_retI X0 hx hlk hret (hb hby own_dn_78) ?_ (by decide) (by decide)
            exact ⟨congrArg (fun z => some (Value.int z)) ((show (own_nlz x) = ((7 : Int32) - ((((((x.toUInt32 >>> ((16 : Int32) &&& 31).toUInt32).toInt32).toUInt32 >>> ((8 : Int32) &&& 31).toUInt32).toInt32).toUInt32 >>> ((1 : Int32) &&& 31).toUInt32).toInt32)) from ((if_pos hc1).trans ((if_neg hc22).trans ((if_neg hc37).trans ((if_pos hc51).trans ((if_pos hc63).trans rfl)))))).trans (by rfl : ((7 : Int32) - ((((((x.toUInt32 >>> ((16 : Int32) &&& 31).toUInt32).toInt32).toUInt32 >>> ((8 : Int32) &&& 31).toUInt32).toInt32).toUInt32 >>> ((1 : Int32) &&& 31).toUInt32).toInt32)) = ((7 : Int32) - ((((((x.toUInt32 >>> ((16 : Int32) &&& 31).toUInt32).toInt32).toUInt32 >>> ((8 : Int32) &&& 31).toUInt32).toInt32).toUInt32 >>> ((1 : Int32) &&& 31).toUInt32).toInt32)))).symm, e0, rfl⟩
          · skip
            refine own_gs 66 [] (fun t' k => XS.icmpNo X0.here hx rfl (hb hby own_dn_63) rfl (flt hc63).1 k) ?_
            refine own_go (mkF m 69 #[iv ((((x.toUInt32 >>> ((16 : Int32) &&& 31).toUInt32).toInt32).toUInt32 >>> ((8 : Int32) &&& 31).toUInt32).toInt32), iv (5 : Int32)] []) (fun t' k => XS.iinc X0.here hx rfl (hb hby own_dn_66) rfl rfl k) ?_
            refine own_gs 70 [(.int ((((x.toUInt32 >>> ((16 : Int32) &&& 31).toUInt32).toInt32).toUInt32 >>> ((8 : Int32) &&& 31).toUInt32).toInt32))] (fun t' k => XS.iloadN X0.here hx rfl (hb hby own_dn_69) rfl  k) ?_
            refine own_gs 71 [(.int (2 : Int32)), (.int ((((x.toUInt32 >>> ((16 : Int32) &&& 31).toUInt32).toInt32).toUInt32 >>> ((8 : Int32) &&& 31).toUInt32).toInt32))] (fun t' k => XS.iconst X0.here hx rfl (hb hby own_dn_70) k) ?_
            refine own_gs 72 [(.int ((((((x.toUInt32 >>> ((16 : Int32) &&& 31).toUInt32).toInt32).toUInt32 >>> ((8 : Int32) &&& 31).toUInt32).toInt32).toUInt32 >>> ((2 : Int32) &&& 31).toUInt32).toInt32))] (fun t' k => XS.iushr X0.here hx rfl (hb hby own_dn_71) rfl k) ?_
            refine own_go (mkF m 73 #[iv ((((((x.toUInt32 >>> ((16 : Int32) &&& 31).toUInt32).toInt32).toUInt32 >>> ((8 : Int32) &&& 31).toUInt32).toInt32).toUInt32 >>> ((2 : Int32) &&& 31).toUInt32).toInt32), iv (5 : Int32)] []) (fun t' k => XS.istoreN X0.here hx rfl (hb hby own_dn_72) rfl rfl k) ?_
            refine own_gs 74 [(.int (5 : Int32))] (fun t' k => XS.iloadN X0.here hx rfl (hb hby own_dn_73) rfl  k) ?_
            refine own_gs 75 [(.int ((((((x.toUInt32 >>> ((16 : Int32) &&& 31).toUInt32).toInt32).toUInt32 >>> ((8 : Int32) &&& 31).toUInt32).toInt32).toUInt32 >>> ((2 : Int32) &&& 31).toUInt32).toInt32)), (.int (5 : Int32))] (fun t' k => XS.iloadN X0.here hx rfl (hb hby own_dn_74) rfl  k) ?_
            refine own_gs 76 [(.int (1 : Int32)), (.int ((((((x.toUInt32 >>> ((16 : Int32) &&& 31).toUInt32).toInt32).toUInt32 >>> ((8 : Int32) &&& 31).toUInt32).toInt32).toUInt32 >>> ((2 : Int32) &&& 31).toUInt32).toInt32)), (.int (5 : Int32))] (fun t' k => XS.iconst X0.here hx rfl (hb hby own_dn_75) k) ?_
            refine own_gs 77 [(.int ((((((((x.toUInt32 >>> ((16 : Int32) &&& 31).toUInt32).toInt32).toUInt32 >>> ((8 : Int32) &&& 31).toUInt32).toInt32).toUInt32 >>> ((2 : Int32) &&& 31).toUInt32).toInt32).toUInt32 >>> ((1 : Int32) &&& 31).toUInt32).toInt32)), (.int (5 : Int32))] (fun t' k => XS.iushr X0.here hx rfl (hb hby own_dn_76) rfl k) ?_
            refine own_gs 78 [(.int ((5 : Int32) - ((((((((x.toUInt32 >>> ((16 : Int32) &&& 31).toUInt32).toInt32).toUInt32 >>> ((8 : Int32) &&& 31).toUInt32).toInt32).toUInt32 >>> ((2 : Int32) &&& 31).toUInt32).toInt32).toUInt32 >>> ((1 : Int32) &&& 31).toUInt32).toInt32)))] (fun t' k => XS.isub X0.here hx rfl (hb hby own_dn_77) rfl k) ?_
            refine own_retI X0 hx hlk hret (hb hby own_dn_78) ?_ (by decide) (by decide)
            exact ⟨congrArg (fun z => some (Value.int z)) ((show (own_nlz x) = ((5 : Int32) - ((((((((x.toUInt32 >>> ((16 : Int32) &&& 31).toUInt32).toInt32).toUInt32 >>> ((8 : Int32) &&& 31).toUInt32).toInt32).toUInt32 >>> ((2 : Int32) &&& 31).toUInt32).toInt32).toUInt32 >>> ((1 : Int32) &&& 31).toUInt32).toInt32)) from ((if_pos hc1).trans ((if_neg hc22).trans ((if_neg hc37).trans ((if_pos hc51).trans ((if_neg hc63).trans rfl)))))).trans (by rfl : ((5 : Int32) - ((((((((x.toUInt32 >>> ((16 : Int32) &&& 31).toUInt32).toInt32).toUInt32 >>> ((8 : Int32) &&& 31).toUInt32).toInt32).toUInt32 >>> ((2 : Int32) &&& 31).toUInt32).toInt32).toUInt32 >>> ((1 : Int32) &&& 31).toUInt32).toInt32)) = ((5 : Int32) - ((((((((x.toUInt32 >>> ((16 : Int32) &&& 31).toUInt32).toInt32).toUInt32 >>> ((8 : Int32) &&& 31).toUInt32).toInt32).toUInt32 >>> ((2 : Int32) &&& 31).toUInt32).toInt32).toUInt32 >>> ((1 : Int32) &&& 31).toUInt32).toInt32)))).symm, e0, rfl⟩
        · skip
          refine own_gs 54 [] (fun t' k => XS.icmpNo X0.here hx rfl (hb hby own_dn_51) rfl (flt hc51).1 k) ?_
          refine own_go (mkF m 57 #[iv ((((x.toUInt32 >>> ((16 : Int32) &&& 31).toUInt32).toInt32).toUInt32 >>> ((8 : Int32) &&& 31).toUInt32).toInt32), iv (3 : Int32)] []) (fun t' k => XS.iinc X0.here hx rfl (hb hby own_dn_54) rfl rfl k) ?_
          refine own_gs 58 [(.int ((((x.toUInt32 >>> ((16 : Int32) &&& 31).toUInt32).toInt32).toUInt32 >>> ((8 : Int32) &&& 31).toUInt32).toInt32))] (fun t' k => XS.iloadN X0.here hx rfl (hb hby own_dn_57) rfl  k) ?_
          refine own_gs 59 [(.int (4 : Int32)), (.int ((((x.toUInt32 >>> ((16 : Int32) &&& 31).toUInt32).toInt32).toUInt32 >>> ((8 : Int32) &&& 31).toUInt32).toInt32))] (fun t' k => XS.iconst X0.here hx rfl (hb hby own_dn_58) k) ?_
          refine own_gs 60 [(.int ((((((x.toUInt32 >>> ((16 : Int32) &&& 31).toUInt32).toInt32).toUInt32 >>> ((8 : Int32) &&& 31).toUInt32).toInt32).toUInt32 >>> ((4 : Int32) &&& 31).toUInt32).toInt32))] (fun t' k => XS.iushr X0.here hx rfl (hb hby own_dn_59) rfl k) ?_
          refine own_go (mkF m 61 #[iv ((((((x.toUInt32 >>> ((16 : Int32) &&& 31).toUInt32).toInt32).toUInt32 >>> ((8 : Int32) &&& 31).toUInt32).toInt32).toUInt32 >>> ((4 : Int32) &&& 31).toUInt32).toInt32), iv (3 : Int32)] []) (fun t' k => XS.istoreN X0.here hx rfl (hb hby own_dn_60) rfl rfl k) ?_
          refine own_gs 62 [(.int ((((((x.toUInt32 >>> ((16 : Int32) &&& 31).toUInt32).toInt32).toUInt32 >>> ((8 : Int32) &&& 31).toUInt32).toInt32).toUInt32 >>> ((4 : Int32) &&& 31).toUInt32).toInt32))] (fun t' k => XS.iloadN X0.here hx rfl (hb hby own_dn_61) rfl  k) ?_
          refine own_gs 63 [(.int (4 : Int32)), (.int ((((((x.toUInt32 >>> ((16 : Int32) &&& 31).toUInt32).toInt32).toUInt32 >>> ((8 : Int32) &&& 31).toUInt32).toInt32).toUInt32 >>> ((4 : Int32) &&& 31).toUInt32).toInt32))] (fun t' k => XS.iconst X0.here hx rfl (hb hby own_dn_62) k) ?_
          by_cases hc63 : ((((((x.toUInt32 >>> ((16 : Int32) &&& 31).toUInt32).toInt32).toUInt32 >>> ((8 : Int32) &&& 31).toUInt32).toInt32).toUInt32 >>> ((4 : Int32) &&& 31).toUInt32).toInt32) < (4 : Int32)
          · skip
            refine own_gs 73 [] (fun t' k => XS.icmpYes X0.here hx rfl (pc0 := 63) (pc' := 73) rfl (hb hby own_dn_63) rfl (tlt hc63).1 (by decide) (by decide) k) ?_
            refine own_gs 74 [(.int (3 : Int32))] (fun t' k => XS.iloadN X0.here hx rfl (hb hby own_dn_73) rfl  k) ?_
            refine own_gs 75 [(.int ((((((x.toUInt32 >>> ((16 : Int32) &&& 31).toUInt32).toInt32).toUInt32 >>> ((8 : Int32) &&& 31).toUInt32).toInt32).toUInt32 >>> ((4 : Int32) &&& 31).toUInt32).toInt32)), (.int (3 : Int32))] (fun t' k => XS.iloadN X0.here hx rfl (hb hby own_dn_74) rfl  k) ?_
            refine own_gs 76 [(.int (1 : Int32)), (.int ((((((x.toUInt32 >>> ((16 : Int32) &&& 31).toUInt32).toInt32).toUInt32 >>> ((8 : Int32) &&& 31).toUInt32).toInt32).toUInt32 >>> ((4 : Int32) &&& 31).toUInt32).toInt32)), (.int (3 : Int32))] (fun t' k => XS.iconst X0.here hx rfl (hb hby own_dn_75) k) ?_
            refine own_gs 77 [(.int ((((((((x.toUInt32 >>> ((16 : Int32) &&& 31).toUInt32).toInt32).toUInt32 >>> ((8 : Int32) &&& 31).toUInt32).toInt32).toUInt32 >>> ((4 : Int32) &&& 31).toUInt32).toInt32).toUInt32 >>> ((1 : Int32) &&& 31).toUInt32).toInt32)), (.int (3 : Int32))] (fun t' k => XS.iushr X0.here hx rfl (hb hby own_dn_76) rfl k) ?_
            refine own_gs 78 [(.int ((3 : Int32) - ((((((((x.toUInt32 >>> ((16 : Int32) &&& 31).toUInt32).toInt32).toUInt32 >>> ((8 : Int32) &&& 31).toUInt32).toInt32).toUInt32 >>> ((4 : Int32) &&& 31).toUInt32).toInt32).toUInt32 >>> ((1 : Int32) &&& 31).toUInt32).toInt32)))] (fun t' k => XS.isub X0.here hx rfl (hb hby own_dn_77) rfl k) ?_
            refine own_retI X0 hx hlk hret (hb hby own_dn_78) ?_ (by decide) (by decide)
            exact ⟨congrArg (fun z => some (Value.int z)) ((show (own_nlz x) = ((3 : Int32) - ((((((((x.toUInt32 >>> ((16 : Int32) &&& 31).toUInt32).toInt32).toUInt32 >>> ((8 : Int32) &&& 31).toUInt32).toInt32).toUInt32 >>> ((4 : Int32) &&& 31).toUInt32).toInt32).toUInt32 >>> ((1 : Int32) &&& 31).toUInt32).toInt32)) from ((if_pos hc1).trans ((if_neg hc22).trans ((if_neg hc37).trans ((if_neg hc51).trans ((if_pos hc63).trans rfl)))))).trans (by rfl : ((3 : Int32) - ((((((((x.toUInt32 >>> ((16 : Int32) &&& 31).toUInt32).toInt32).toUInt32 >>> ((8 : Int32) &&& 31).toUInt32).toInt32).toUInt32 >>> ((4 : Int32) &&& 31).toUInt32).toInt32).toUInt32 >>> ((1 : Int32) &&& 31).toUInt32).toInt32)) = ((3 : Int32) - ((((((((x.toUInt32 >>> ((16 : Int32) &&& 31).toUInt32).toInt32).toUInt32 >>> ((8 : Int32) &&& 31).toUInt32).toInt32).toUInt32 >>> ((4 : Int32) &&& 31).toUInt32).toInt32).toUInt32 >>> ((1 : Int32) &&& 31).toUInt32).toInt32)))).symm, e0, rfl⟩
          · skip
            refine own_gs 66 [] (fun t' k => XS.icmpNo X0.here hx rfl (hb hby own_dn_63) rfl (flt hc63).1 k) ?_
            refine own_go (mkF m 69 #[iv ((((((x.toUInt32 >>> ((16 : Int32) &&& 31).toUInt32).toInt32).toUInt32 >>> ((8 : Int32) &&& 31).toUInt32).toInt32).toUInt32 >>> ((4 : Int32) &&& 31).toUInt32).toInt32), iv (1 : Int32)] []) (fun t' k => XS.iinc X0.here hx rfl (hb hby own_dn_66) rfl rfl k) ?_
            refine own_gs 70 [(.int ((((((x.toUInt32 >>> ((16 : Int32) &&& 31).toUInt32).toInt32).toUInt32 >>> ((8 : Int32) &&& 31).toUInt32).toInt32).toUInt32 >>> ((4 : Int32) &&& 31).toUInt32).toInt32))] (fun t' k => XS.iloadN X0.here hx rfl (hb hby own_dn_69) rfl  k) ?_
            refine own_gs 71 [(.int (2 : Int32)), (.int ((((((x.toUInt32 >>> ((16 : Int32) &&& 31).toUInt32).toInt32).toUInt32 >>> ((8 : Int32) &&& 31).toUInt32).toInt32).toUInt32 >>> ((4 : Int32) &&& 31).toUInt32).toInt32))] (fun t' k => XS.iconst X0.here hx rfl (hb hby own_dn_70) k) ?_
            refine own_gs 72 [(.int ((((((((x.toUInt32 >>> ((16 : Int32) &&& 31).toUInt32).toInt32).toUInt32 >>> ((8 : Int32) &&& 31).toUInt32).toInt32).toUInt32 >>> ((4 : Int32) &&& 31).toUInt32).toInt32).toUInt32 >>> ((2 : Int32) &&& 31).toUInt32).toInt32))] (fun t' k => XS.iushr X0.here hx rfl (hb hby own_dn_71) rfl k) ?_
            refine own_go (mkF m 73 #[iv ((((((((x.toUInt32 >>> ((16 : Int32) &&& 31).toUInt32).toInt32).toUInt32 >>> ((8 : Int32) &&& 31).toUInt32).toInt32).toUInt32 >>> ((4 : Int32) &&& 31).toUInt32).toInt32).toUInt32 >>> ((2 : Int32) &&& 31).toUInt32).toInt32), iv (1 : Int32)] []) (fun t' k => XS.istoreN X0.here hx rfl (hb hby own_dn_72) rfl rfl k) ?_
            refine own_gs 74 [(.int (1 : Int32))] (fun t' k => XS.iloadN X0.here hx rfl (hb hby own_dn_73) rfl  k) ?_
            refine own_gs 75 [(.int ((((((((x.toUInt32 >>> ((16 : Int32) &&& 31).toUInt32).toInt32).toUInt32 >>> ((8 : Int32) &&& 31).toUInt32).toInt32).toUInt32 >>> ((4 : Int32) &&& 31).toUInt32).toInt32).toUInt32 >>> ((2 : Int32) &&& 31).toUInt32).toInt32)), (.int (1 : Int32))] (fun t' k => XS.iloadN X0.here hx rfl (hb hby own_dn_74) rfl  k) ?_
            refine own_gs 76 [(.int (1 : Int32)), (.int ((((((((x.toUInt32 >>> ((16 : Int32) &&& 31).toUInt32).toInt32).toUInt32 >>> ((8 : Int32) &&& 31).toUInt32).toInt32).toUInt32 >>> ((4 : Int32) &&& 31).toUInt32).toInt32).toUInt32 >>> ((2 : Int32) &&& 31).toUInt32).toInt32)), (.int (1 : Int32))] (fun t' k => XS.iconst X0.here hx rfl (hb hby own_dn_75) k) ?_
            refine own_gs 77 [(.int ((((((((((x.toUInt32 >>> ((16 : Int32) &&& 31).toUInt32).toInt32).toUInt32 >>> ((8 : Int32) &&& 31).toUInt32).toInt32).toUInt32 >>> ((4 : Int32) &&& 31).toUInt32).toInt32).toUInt32 >>> ((2 : Int32) &&& 31).toUInt32).toInt32).toUInt32 >>> ((1 : Int32) &&& 31).toUInt32).toInt32)), (.int (1 : Int32))] (fun t' k => XS.iushr X0.here hx rfl (hb hby own_dn_76) rfl k) ?_
            refine own_gs 78 [(.int ((1 : Int32) - ((((((((((x.toUInt32 >>> ((16 : Int32) &&& 31).toUInt32).toInt32).toUInt32 >>> ((8 : Int32) &&& 31).toUInt32).toInt32).toUInt32 >>> ((4 : Int32) &&& 31).toUInt32).toInt32).toUInt32 >>> ((2 : Int32) &&& 31).toUInt32).toInt32).toUInt32 >>> ((1 : Int32) &&& 31).toUInt32).toInt32)))] (fun t' k => XS.isub X0.here hx rfl (hb hby own_dn_77) rfl k) ?_
            refine own_retI X0 hx hlk hret (hb hby own_dn_78) ?_ (by decide) (by decide)
            exact ⟨congrArg (fun z => some (Value.int z)) ((show (own_nlz x) = ((1 : Int32) - ((((((((((x.toUInt32 >>> ((16 : Int32) &&& 31).toUInt32).toInt32).toUInt32 >>> ((8 : Int32) &&& 31).toUInt32).toInt32).toUInt32 >>> ((4 : Int32) &&& 31).toUInt32).toInt32).toUInt32 >>> ((2 : Int32) &&& 31).toUInt32).toInt32).toUInt32 >>> ((1 : Int32) &&& 31).toUInt32).toInt32)) from ((if_pos hc1).trans ((if_neg hc22).trans ((if_neg hc37).trans ((if_neg hc51).trans ((if_neg hc63).trans rfl)))))).trans (by rfl : ((1 : Int32) - ((((((((((x.toUInt32 >>> ((16 : Int32) &&& 31).toUInt32).toInt32).toUInt32 >>> ((8 : Int32) &&& 31).toUInt32).toInt32).toUInt32 >>> ((4 : Int32) &&& 31).toUInt32).toInt32).toUInt32 >>> ((2 : Int32) &&& 31).toUInt32).toInt32).toUInt32 >>> ((1 : Int32) &&& 31).toUInt32).toInt32)) = ((1 : Int32) - ((((((((((x.toUInt32 >>> ((16 : Int32) &&& 31).toUInt32).toInt32).toUInt32 >>> ((8 : Int32) &&& 31).toUInt32).toInt32).toUInt32 >>> ((4 : Int32) &&& 31).toUInt32).toInt32).toUInt32 >>> ((2 : Int32) &&& 31).toUInt32).toInt32).toUInt32 >>> ((1 : Int32) &&& 31).toUInt32).toInt32)))).symm, e0, rfl⟩
  · skip
    refine own_gs 4 [] (fun t' k => XS.ifNo X0.here hx rfl (hb hby own_dn_1) rfl ((if0 _ _).trans (flt hc1).2.2.1) k) ?_
    refine own_gs 5 [(.int x)] (fun t' k => XS.iloadN X0.here hx rfl (hb hby own_dn_4) rfl  k) ?_
    by_cases hc5 : x = (0 : Int32)
    · skip
      refine own_gs 8 [] (fun t' k => XS.ifNo X0.here hx rfl (hb hby own_dn_5) rfl ((if0 _ _).trans (teq hc5).2) k) ?_
      refine own_gs 10 [(.int (32 : Int32))] (fun t' k => XS.bipush X0.here hx rfl (hb hby own_dn_8) k) ?_
      refine own_gs 14 [(.int (32 : Int32))] (fun t' k => XS.goto X0.here hx rfl (pc0 := 10) (pc' := 14) rfl (hb hby own_dn_10) (by decide) (by decide) k) ?_
      refine own_retI X0 hx hlk hret (hb hby own_dn_14) ?_ (by decide) (by decide)
      exact ⟨congrArg (fun z => some (Value.int z)) ((show (own_nlz x) = (32 : Int32) from ((if_neg hc1).trans ((if_pos hc5).trans rfl))).trans (by rfl : (32 : Int32) = (32 : Int32))).symm, e0, rfl⟩
    · skip
      refine own_gs 13 [] (fun t' k => XS.ifYes X0.here hx rfl (pc0 := 5) (pc' := 13) rfl (hb hby own_dn_5) rfl ((if0 _ _).trans (feq hc5).2) (by decide) (by decide) k) ?_
      refine own_gs 14 [(.int (0 : Int32))] (fun t' k => XS.iconst X0.here hx rfl (hb hby own_dn_13) k) ?_
      refine own_retI X0 hx hlk hret (hb hby own_dn_14) ?_ (by decide) (by decide)
      exact ⟨congrArg (fun z => some (Value.int z)) ((show (own_nlz x) = (0 : Int32) from ((if_neg hc1).trans ((if_neg hc5).trans rfl))).trans (by rfl : (0 : Int32) = (0 : Int32))).symm, e0, rfl⟩

def own_hob (x : Int32) : Int32 := (x &&& (((-2147483648 : Int32).toUInt32 >>> ((own_nlz x) &&& 31).toUInt32).toInt32))
theorem own_dh_0 : decode jdk_33_method_45_code 0 = .ok (.iload_n 0, 1) := by decide +kernel
theorem own_dh_1 : decode jdk_33_method_45_code 1 = .ok (.ldc 127, 2) := by decide +kernel
theorem own_dh_3 : decode jdk_33_method_45_code 3 = .ok (.iload_n 0, 1) := by decide +kernel
theorem own_dh_4 : decode jdk_33_method_45_code 4 = .ok (.invokestatic 51, 3) := by decide +kernel
theorem own_dh_7 : decode jdk_33_method_45_code 7 = .ok (.iushr, 1) := by decide +kernel
theorem own_dh_8 : decode jdk_33_method_45_code 8 = .ok (.iand, 1) := by decide +kernel
theorem own_dh_9 : decode jdk_33_method_45_code 9 = .ok (.ireturn, 1) := by decide +kernel
theorem own_pn_own_hobC : plainFor (⟨"java/lang/Integer", "highestOneBit", "(I)I"⟩ : MethodName) = true := plainFor_of_name (show plainName "java/lang/Integer" = true by first | (simp [plainName, overriddenIn]; done) | decide +kernel)
set_option maxRecDepth 65536 in
set_option maxHeartbeats 40000000 in
theorem own_hobC (l : Launch) (Z : State) (a0 : Array Value) (hw : ∀ d ∈ tables_1, d.before a0 Z = true) (ws : List Jvm.Cond) (h0 : Heap) (x : Int32)  :
    own_C l Z (⟨"java/lang/Integer", "highestOneBit", "(I)I"⟩ : MethodName) jdk_33_method_45_code 1 (some .int) ws ({ frames := 1, cells := 0, slots := 0, locals := 15 } : Room) #[(.int x)] h0 (own_P (.int (own_hob x)) h0) := by
  refine own_met own_pn_own_hobC #[iv x] (fun m => by first | (simp [entryFrame, mkF, argsToLocals, Value.category]; done) | rfl) ?_
  intro p e s m below meth c s₁ hx hby hml hown hret hlk hZ hnm X0 e0
  refine own_gs 1 [(.int x)] (fun t' k => XS.iloadN X0.here hx rfl (hb hby own_dh_0) rfl  k) ?_
  refine own_gs 3 [(.int (-2147483648 : Int32)), (.int x)] (fun t' k => X0.ldcInt hx hown (mvT hZ (hw _ (List.mem_of_getElem? (i := 46) rfl))) (g := (mkF m 1 #[iv x] [(.int x)])) rfl (hb hby own_dh_1) _ k) ?_
  refine own_gs 4 [(.int x), (.int (-2147483648 : Int32)), (.int x)] (fun t' k => XS.iloadN X0.here hx rfl (hb hby own_dh_3) rfl  k) ?_
  refine own_callP X0 hx hZ (y := (⟨"java/lang/Integer", "numberOfLeadingZeros", "(I)I"⟩ : MethodName)) (fr := 0) (lo := 0) (r := (.int (own_nlz x))) hown (hw _ (List.mem_of_getElem? (i := 47) rfl)) (hw _ (List.mem_of_getElem? (i := 48) rfl)) (hw _ (List.mem_of_getElem? (i := 22) rfl)) (hw _ (List.mem_of_getElem? (i := 49) rfl)) (by decide) e0 [(.int x)] [(.int (-2147483648 : Int32)), (.int x)] (own_nlzC l Z a0 hw [] h0 x) 2 (by decide) (by decide) (Nat.le_of_eq rfl) (by decide) (by decide) (by rw [hml]; rfl) (lenOf own_pd0 rfl) rfl (hb hby own_dh_4) ?_
  intro T1 X1 e1
  refine own_gs 8 [(.int (((-2147483648 : Int32).toUInt32 >>> ((own_nlz x) &&& 31).toUInt32).toInt32)), (.int x)] (fun t' k => XS.iushr X1.here hx rfl (hb hby own_dh_7) rfl k) ?_
  refine own_gs 9 [(.int (x &&& (((-2147483648 : Int32).toUInt32 >>> ((own_nlz x) &&& 31).toUInt32).toInt32)))] (fun t' k => XS.iand X1.here hx rfl (hb hby own_dh_8) rfl k) ?_
  refine own_retI X1 hx hlk hret (hb hby own_dh_9) ?_ (by decide) (by decide)
  exact ⟨congrArg (fun z => some (Value.int z)) ((show (own_hob x) = (x &&& (((-2147483648 : Int32).toUInt32 >>> ((own_nlz x) &&& 31).toUInt32).toInt32)) from rfl).trans (by rfl : (x &&& (((-2147483648 : Int32).toUInt32 >>> ((own_nlz x) &&& 31).toUInt32).toInt32)) = (x &&& (((-2147483648 : Int32).toUInt32 >>> ((own_nlz x) &&& 31).toUInt32).toInt32)))).symm, e1, rfl⟩

def own_ntz (x : Int32) : Int32 := (if (0 : Int32) < ((x ^^^ (-1 : Int32)) &&& (x - (1 : Int32))) then (if (65536 : Int32) < ((x ^^^ (-1 : Int32)) &&& (x - (1 : Int32))) then (if (256 : Int32) < ((((x ^^^ (-1 : Int32)) &&& (x - (1 : Int32))).toUInt32 >>> ((16 : Int32) &&& 31).toUInt32).toInt32) then (if (16 : Int32) < ((((((x ^^^ (-1 : Int32)) &&& (x - (1 : Int32))).toUInt32 >>> ((16 : Int32) &&& 31).toUInt32).toInt32).toUInt32 >>> ((8 : Int32) &&& 31).toUInt32).toInt32) then (if (4 : Int32) < ((((((((x ^^^ (-1 : Int32)) &&& (x - (1 : Int32))).toUInt32 >>> ((16 : Int32) &&& 31).toUInt32).toInt32).toUInt32 >>> ((8 : Int32) &&& 31).toUInt32).toInt32).toUInt32 >>> ((4 : Int32) &&& 31).toUInt32).toInt32) then ((31 : Int32) + ((((((((((((x ^^^ (-1 : Int32)) &&& (x - (1 : Int32))).toUInt32 >>> ((16 : Int32) &&& 31).toUInt32).toInt32).toUInt32 >>> ((8 : Int32) &&& 31).toUInt32).toInt32).toUInt32 >>> ((4 : Int32) &&& 31).toUInt32).toInt32).toUInt32 >>> ((2 : Int32) &&& 31).toUInt32).toInt32).toUInt32 >>> ((1 : Int32) &&& 31).toUInt32).toInt32)) else ((29 : Int32) + ((((((((((x ^^^ (-1 : Int32)) &&& (x - (1 : Int32))).toUInt32 >>> ((16 : Int32) &&& 31).toUInt32).toInt32).toUInt32 >>> ((8 : Int32) &&& 31).toUInt32).toInt32).toUInt32 >>> ((4 : Int32) &&& 31).toUInt32).toInt32).toUInt32 >>> ((1 : Int32) &&& 31).toUInt32).toInt32))) else (if (4 : Int32) < ((((((x ^^^ (-1 : Int32)) &&& (x - (1 : Int32))).toUInt32 >>> ((16 : Int32) &&& 31).toUInt32).toInt32).toUInt32 >>> ((8 : Int32) &&& 31).toUInt32).toInt32) then ((27 : Int32) + ((((((((((x ^^^ (-1 : Int32)) &&& (x - (1 : Int32))).toUInt32 >>> ((16 : Int32) &&& 31).toUInt32).toInt32).toUInt32 >>> ((8 : Int32) &&& 31).toUInt32).toInt32).toUInt32 >>> ((2 : Int32) &&& 31).toUInt32).toInt32).toUInt32 >>> ((1 : Int32) &&& 31).toUInt32).toInt32)) else ((25 : Int32) + ((((((((x ^^^ (-1 : Int32)) &&& (x - (1 : Int32))).toUInt32 >>> ((16 : Int32) &&& 31).toUInt32).toInt32).toUInt32 >>> ((8 : Int32) &&& 31).toUInt32).toInt32).toUInt32 >>> ((1 : Int32) &&& 31).toUInt32).toInt32)))) else (if (16 : Int32) < ((((x ^^^ (-1 : Int32)) &&& (x - (1 : Int32))).toUInt32 >>> ((16 : Int32) &&& 31).toUInt32).toInt32) then (if (4 : Int32) < ((((((x ^^^ (-1 : Int32)) &&& (x - (1 : Int32))).toUInt32 >>> ((16 : Int32) &&& 31).toUInt32).toInt32).toUInt32 >>> ((4 : Int32) &&& 31).toUInt32).toInt32) then ((23 : Int32) + ((((((((((x ^^^ (-1 : Int32)) &&& (x - (1 : Int32))).toUInt32 >>> ((16 : Int32) &&& 31).toUInt32).toInt32).toUInt32 >>> ((4 : Int32) &&& 31).toUInt32).toInt32).toUInt32 >>> ((2 : Int32) &&& 31).toUInt32).toInt32).toUInt32 >>> ((1 : Int32) &&& 31).toUInt32).toInt32)) else ((21 : Int32) + ((((((((x ^^^ (-1 : Int32)) &&& (x - (1 : Int32))).toUInt32 >>> ((16 : Int32) &&& 31).toUInt32).toInt32).toUInt32 >>> ((4 : Int32) &&& 31).toUInt32).toInt32).toUInt32 >>> ((1 : Int32) &&& 31).toUInt32).toInt32))) else (if (4 : Int32) < ((((x ^^^ (-1 : Int32)) &&& (x - (1 : Int32))).toUInt32 >>> ((16 : Int32) &&& 31).toUInt32).toInt32) then ((19 : Int32) + ((((((((x ^^^ (-1 : Int32)) &&& (x - (1 : Int32))).toUInt32 >>> ((16 : Int32) &&& 31).toUInt32).toInt32).toUInt32 >>> ((2 : Int32) &&& 31).toUInt32).toInt32).toUInt32 >>> ((1 : Int32) &&& 31).toUInt32).toInt32)) else ((17 : Int32) + ((((((x ^^^ (-1 : Int32)) &&& (x - (1 : Int32))).toUInt32 >>> ((16 : Int32) &&& 31).toUInt32).toInt32).toUInt32 >>> ((1 : Int32) &&& 31).toUInt32).toInt32))))) else (if (256 : Int32) < ((x ^^^ (-1 : Int32)) &&& (x - (1 : Int32))) then (if (16 : Int32) < ((((x ^^^ (-1 : Int32)) &&& (x - (1 : Int32))).toUInt32 >>> ((8 : Int32) &&& 31).toUInt32).toInt32) then (if (4 : Int32) < ((((((x ^^^ (-1 : Int32)) &&& (x - (1 : Int32))).toUInt32 >>> ((8 : Int32) &&& 31).toUInt32).toInt32).toUInt32 >>> ((4 : Int32) &&& 31).toUInt32).toInt32) then ((15 : Int32) + ((((((((((x ^^^ (-1 : Int32)) &&& (x - (1 : Int32))).toUInt32 >>> ((8 : Int32) &&& 31).toUInt32).toInt32).toUInt32 >>> ((4 : Int32) &&& 31).toUInt32).toInt32).toUInt32 >>> ((2 : Int32) &&& 31).toUInt32).toInt32).toUInt32 >>> ((1 : Int32) &&& 31).toUInt32).toInt32)) else ((13 : Int32) + ((((((((x ^^^ (-1 : Int32)) &&& (x - (1 : Int32))).toUInt32 >>> ((8 : Int32) &&& 31).toUInt32).toInt32).toUInt32 >>> ((4 : Int32) &&& 31).toUInt32).toInt32).toUInt32 >>> ((1 : Int32) &&& 31).toUInt32).toInt32))) else (if (4 : Int32) < ((((x ^^^ (-1 : Int32)) &&& (x - (1 : Int32))).toUInt32 >>> ((8 : Int32) &&& 31).toUInt32).toInt32) then ((11 : Int32) + ((((((((x ^^^ (-1 : Int32)) &&& (x - (1 : Int32))).toUInt32 >>> ((8 : Int32) &&& 31).toUInt32).toInt32).toUInt32 >>> ((2 : Int32) &&& 31).toUInt32).toInt32).toUInt32 >>> ((1 : Int32) &&& 31).toUInt32).toInt32)) else ((9 : Int32) + ((((((x ^^^ (-1 : Int32)) &&& (x - (1 : Int32))).toUInt32 >>> ((8 : Int32) &&& 31).toUInt32).toInt32).toUInt32 >>> ((1 : Int32) &&& 31).toUInt32).toInt32)))) else (if (16 : Int32) < ((x ^^^ (-1 : Int32)) &&& (x - (1 : Int32))) then (if (4 : Int32) < ((((x ^^^ (-1 : Int32)) &&& (x - (1 : Int32))).toUInt32 >>> ((4 : Int32) &&& 31).toUInt32).toInt32) then ((7 : Int32) + ((((((((x ^^^ (-1 : Int32)) &&& (x - (1 : Int32))).toUInt32 >>> ((4 : Int32) &&& 31).toUInt32).toInt32).toUInt32 >>> ((2 : Int32) &&& 31).toUInt32).toInt32).toUInt32 >>> ((1 : Int32) &&& 31).toUInt32).toInt32)) else ((5 : Int32) + ((((((x ^^^ (-1 : Int32)) &&& (x - (1 : Int32))).toUInt32 >>> ((4 : Int32) &&& 31).toUInt32).toInt32).toUInt32 >>> ((1 : Int32) &&& 31).toUInt32).toInt32))) else (if (4 : Int32) < ((x ^^^ (-1 : Int32)) &&& (x - (1 : Int32))) then ((3 : Int32) + ((((((x ^^^ (-1 : Int32)) &&& (x - (1 : Int32))).toUInt32 >>> ((2 : Int32) &&& 31).toUInt32).toInt32).toUInt32 >>> ((1 : Int32) &&& 31).toUInt32).toInt32)) else ((1 : Int32) + ((((x ^^^ (-1 : Int32)) &&& (x - (1 : Int32))).toUInt32 >>> ((1 : Int32) &&& 31).toUInt32).toInt32)))))) else (((x ^^^ (-1 : Int32)) &&& (x - (1 : Int32))) &&& (32 : Int32)))
theorem own_dt_0 : decode jdk_33_method_48_code 0 = .ok (.iload_n 0, 1) := by decide +kernel
theorem own_dt_1 : decode jdk_33_method_48_code 1 = .ok (.iconst (-1), 1) := by decide +kernel
theorem own_dt_2 : decode jdk_33_method_48_code 2 = .ok (.ixor, 1) := by decide +kernel
theorem own_dt_3 : decode jdk_33_method_48_code 3 = .ok (.iload_n 0, 1) := by decide +kernel
theorem own_dt_4 : decode jdk_33_method_48_code 4 = .ok (.iconst 1, 1) := by decide +kernel
theorem own_dt_5 : decode jdk_33_method_48_code 5 = .ok (.isub, 1) := by decide +kernel
theorem own_dt_6 : decode jdk_33_method_48_code 6 = .ok (.iand, 1) := by decide +kernel
theorem own_dt_7 : decode jdk_33_method_48_code 7 = .ok (.istore_n 0, 1) := by decide +kernel
theorem own_dt_8 : decode jdk_33_method_48_code 8 = .ok (.iload_n 0, 1) := by decide +kernel
theorem own_dt_9 : decode jdk_33_method_48_code 9 = .ok (.ifCond .gt 8, 3) := by decide +kernel
theorem own_dt_12 : decode jdk_33_method_48_code 12 = .ok (.iload_n 0, 1) := by decide +kernel
theorem own_dt_13 : decode jdk_33_method_48_code 13 = .ok (.bipush 32, 2) := by decide +kernel
theorem own_dt_15 : decode jdk_33_method_48_code 15 = .ok (.iand, 1) := by decide +kernel
theorem own_dt_16 : decode jdk_33_method_48_code 16 = .ok (.ireturn, 1) := by decide +kernel
theorem own_dt_17 : decode jdk_33_method_48_code 17 = .ok (.iconst 1, 1) := by decide +kernel
theorem own_dt_18 : decode jdk_33_method_48_code 18 = .ok (.istore_n 1, 1) := by decide +kernel
theorem own_dt_19 : decode jdk_33_method_48_code 19 = .ok (.iload_n 0, 1) := by decide +kernel
theorem own_dt_20 : decode jdk_33_method_48_code 20 = .ok (.ldc_w 264, 3) := by decide +kernel
theorem own_dt_23 : decode jdk_33_method_48_code 23 = .ok (.if_icmp .le 11, 3) := by decide +kernel
theorem own_dt_26 : decode jdk_33_method_48_code 26 = .ok (.iinc 1 16, 3) := by decide +kernel
theorem own_dt_29 : decode jdk_33_method_48_code 29 = .ok (.iload_n 0, 1) := by decide +kernel
theorem own_dt_30 : decode jdk_33_method_48_code 30 = .ok (.bipush 16, 2) := by decide +kernel
theorem own_dt_32 : decode jdk_33_method_48_code 32 = .ok (.iushr, 1) := by decide +kernel
theorem own_dt_33 : decode jdk_33_method_48_code 33 = .ok (.istore_n 0, 1) := by decide +kernel
theorem own_dt_34 : decode jdk_33_method_48_code 34 = .ok (.iload_n 0, 1) := by decide +kernel
theorem own_dt_35 : decode jdk_33_method_48_code 35 = .ok (.sipush 256, 3) := by decide +kernel
theorem own_dt_38 : decode jdk_33_method_48_code 38 = .ok (.if_icmp .le 11, 3) := by decide +kernel
theorem own_dt_41 : decode jdk_33_method_48_code 41 = .ok (.iinc 1 8, 3) := by decide +kernel
theorem own_dt_44 : decode jdk_33_method_48_code 44 = .ok (.iload_n 0, 1) := by decide +kernel
theorem own_dt_45 : decode jdk_33_method_48_code 45 = .ok (.bipush 8, 2) := by decide +kernel
theorem own_dt_47 : decode jdk_33_method_48_code 47 = .ok (.iushr, 1) := by decide +kernel
theorem own_dt_48 : decode jdk_33_method_48_code 48 = .ok (.istore_n 0, 1) := by decide +kernel
theorem own_dt_49 : decode jdk_33_method_48_code 49 = .ok (.iload_n 0, 1) := by decide +kernel
theorem own_dt_50 : decode jdk_33_method_48_code 50 = .ok (.bipush 16, 2) := by decide +kernel
theorem own_dt_52 : decode jdk_33_method_48_code 52 = .ok (.if_icmp .le 10, 3) := by decide +kernel
theorem own_dt_55 : decode jdk_33_method_48_code 55 = .ok (.iinc 1 4, 3) := by decide +kernel
theorem own_dt_58 : decode jdk_33_method_48_code 58 = .ok (.iload_n 0, 1) := by decide +kernel
theorem own_dt_59 : decode jdk_33_method_48_code 59 = .ok (.iconst 4, 1) := by decide +kernel
theorem own_dt_60 : decode jdk_33_method_48_code 60 = .ok (.iushr, 1) := by decide +kernel
theorem own_dt_61 : decode jdk_33_method_48_code 61 = .ok (.istore_n 0, 1) := by decide +kernel
theorem own_dt_62 : decode jdk_33_method_48_code 62 = .ok (.iload_n 0, 1) := by decide +kernel
theorem own_dt_63 : decode jdk_33_method_48_code 63 = .ok (.iconst 4, 1) := by decide +kernel
theorem own_dt_64 : decode jdk_33_method_48_code 64 = .ok (.if_icmp .le 10, 3) := by decide +kernel
theorem own_dt_67 : decode jdk_33_method_48_code 67 = .ok (.iinc 1 2, 3) := by decide +kernel
theorem own_dt_70 : decode jdk_33_method_48_code 70 = .ok (.iload_n 0, 1) := by decide +kernel
theorem own_dt_71 : decode jdk_33_method_48_code 71 = .ok (.iconst 2, 1) := by decide +kernel
theorem own_dt_72 : decode jdk_33_method_48_code 72 = .ok (.iushr, 1) := by decide +kernel
theorem own_dt_73 : decode jdk_33_method_48_code 73 = .ok (.istore_n 0, 1) := by decide +kernel
theorem own_dt_74 : decode jdk_33_method_48_code 74 = .ok (.iload_n 1, 1) := by decide +kernel
theorem own_dt_75 : decode jdk_33_method_48_code 75 = .ok (.iload_n 0, 1) := by decide +kernel
theorem own_dt_76 : decode jdk_33_method_48_code 76 = .ok (.iconst 1, 1) := by decide +kernel
theorem own_dt_77 : decode jdk_33_method_48_code 77 = .ok (.iushr, 1) := by decide +kernel
theorem own_dt_78 : decode jdk_33_method_48_code 78 = .ok (.iadd, 1) := by decide +kernel
theorem own_dt_79 : decode jdk_33_method_48_code 79 = .ok (.ireturn, 1) := by decide +kernel
theorem own_pn_own_ntzC : plainFor (⟨"java/lang/Integer", "numberOfTrailingZeros", "(I)I"⟩ : MethodName) = true := plainFor_of_name (show plainName "java/lang/Integer" = true by first | (simp [plainName, overriddenIn]; done) | decide +kernel)
set_option maxRecDepth 65536 in
set_option maxHeartbeats 40000000 in
theorem own_ntzC (l : Launch) (Z : State) (a0 : Array Value) (hw : ∀ d ∈ tables_1, d.before a0 Z = true) (ws : List Jvm.Cond) (h0 : Heap) (x : Int32)  :
    own_C l Z (⟨"java/lang/Integer", "numberOfTrailingZeros", "(I)I"⟩ : MethodName) jdk_33_method_48_code 2 (some .int) ws ({ frames := 0, cells := 0, slots := 0, locals := 0 } : Room) #[(.int x)] h0 (own_P (.int (own_ntz x)) h0) := by
  refine own_met own_pn_own_ntzC #[iv x, .unset] (fun m => by first | (simp [entryFrame, mkF, argsToLocals, Value.category]; done) | rfl) ?_
  intro p e s m below meth c s₁ hx hby hml hown hret hlk hZ hnm X0 e0
  refine own_gs 1 [(.int x)] (fun t' k => XS.iloadN X0.here hx rfl (hb hby own_dt_0) rfl  k) ?_
  refine own_gs 2 [(.int (-1 : Int32)), (.int x)] (fun t' k => XS.iconst X0.here hx rfl (hb hby own_dt_1) k) ?_
  refine own_gs 3 [(.int (x ^^^ (-1 : Int32)))] (fun t' k => XS.ixor X0.here hx rfl (hb hby own_dt_2) rfl k) ?_
  refine own_gs 4 [(.int x), (.int (x ^^^ (-1 : Int32)))] (fun t' k => XS.iloadN X0.here hx rfl (hb hby own_dt_3) rfl  k) ?_
  refine own_gs 5 [(.int (1 : Int32)), (.int x), (.int (x ^^^ (-1 : Int32)))] (fun t' k => XS.iconst X0.here hx rfl (hb hby own_dt_4) k) ?_
  refine own_gs 6 [(.int (x - (1 : Int32))), (.int (x ^^^ (-1 : Int32)))] (fun t' k => XS.isub X0.here hx rfl (hb hby own_dt_5) rfl k) ?_
  refine own_gs 7 [(.int ((x ^^^ (-1 : Int32)) &&& (x - (1 : Int32))))] (fun t' k => XS.iand X0.here hx rfl (hb hby own_dt_6) rfl k) ?_
  refine own_go (mkF m 8 #[iv ((x ^^^ (-1 : Int32)) &&& (x - (1 : Int32))), .unset] []) (fun t' k => XS.istoreN X0.here hx rfl (hb hby own_dt_7) rfl rfl k) ?_
  refine own_gs 9 [(.int ((x ^^^ (-1 : Int32)) &&& (x - (1 : Int32))))] (fun t' k => XS.iloadN X0.here hx rfl (hb hby own_dt_8) rfl  k) ?_
  by_cases hc9 : (0 : Int32) < ((x ^^^ (-1 : Int32)) &&& (x - (1 : Int32)))
  · skip
    refine own_gs 17 [] (fun t' k => XS.ifYes X0.here hx rfl (pc0 := 9) (pc' := 17) rfl (hb hby own_dt_9) rfl ((if0 _ _).trans (tlt hc9).2.2.1) (by decide) (by decide) k) ?_
    refine own_gs 18 [(.int (1 : Int32))] (fun t' k => XS.iconst X0.here hx rfl (hb hby own_dt_17) k) ?_
    refine own_go (mkF m 19 #[iv ((x ^^^ (-1 : Int32)) &&& (x - (1 : Int32))), iv (1 : Int32)] []) (fun t' k => XS.istoreN X0.here hx rfl (hb hby own_dt_18) rfl rfl k) ?_
    refine own_gs 20 [(.int ((x ^^^ (-1 : Int32)) &&& (x - (1 : Int32))))] (fun t' k => XS.iloadN X0.here hx rfl (hb hby own_dt_19) rfl  k) ?_
    refine own_gs 23 [(.int (65536 : Int32)), (.int ((x ^^^ (-1 : Int32)) &&& (x - (1 : Int32))))] (fun t' k => X0.ldcwInt hx hown (mvT hZ (hw _ (List.mem_of_getElem? (i := 50) rfl))) (g := (mkF m 20 #[iv ((x ^^^ (-1 : Int32)) &&& (x - (1 : Int32))), iv (1 : Int32)] [(.int ((x ^^^ (-1 : Int32)) &&& (x - (1 : Int32))))])) rfl (hb hby own_dt_20) _ k) ?_
    by_cases hc23 : (65536 : Int32) < ((x ^^^ (-1 : Int32)) &&& (x - (1 : Int32)))
    · skip
      refine own_gs 26 [] (fun t' k => XS.icmpNo X0.here hx rfl (hb hby own_dt_23) rfl (tlt hc23).2.2.2 k) ?_
      refine own_go (mkF m 29 #[iv ((x ^^^ (-1 : Int32)) &&& (x - (1 : Int32))), iv (17 : Int32)] []) (fun t' k => XS.iinc X0.here hx rfl (hb hby own_dt_26) rfl rfl k) ?_
      refine own_gs 30 [(.int ((x ^^^ (-1 : Int32)) &&& (x - (1 : Int32))))] (fun t' k => XS.iloadN X0.here hx rfl (hb hby own_dt_29) rfl  k) ?_
      refine own_gs 32 [(.int (16 : Int32)), (.int ((x ^^^ (-1 : Int32)) &&& (x - (1 : Int32))))] (fun t' k => XS.bipush X0.here hx rfl (hb hby own_dt_30) k) ?_
      refine own_gs 33 [(.int ((((x ^^^ (-1 : Int32)) &&& (x - (1 : Int32))).toUInt32 >>> ((16 : Int32) &&& 31).toUInt32).toInt32))] (fun t' k => XS.iushr X0.here hx rfl (hb hby own_dt_32) rfl k) ?_
      refine own_go (mkF m 34 #[iv ((((x ^^^ (-1 : Int32)) &&& (x - (1 : Int32))).toUInt32 >>> ((16 : Int32) &&& 31).toUInt32).toInt32), iv (17 : Int32)] []) (fun t' k => XS.istoreN X0.here hx rfl (hb hby own_dt_33) rfl rfl k) ?_
      refine own_gs 35 [(.int ((((x ^^^ (-1 : Int32)) &&& (x - (1 : Int32))).toUInt32 >>> ((16 : Int32) &&& 31).toUInt32).toInt32))] (fun t' k => XS.iloadN X0.here hx rfl (hb hby own_dt_34) rfl  k) ?_
      refine own_gs 38 [(.int (256 : Int32)), (.int ((((x ^^^ (-1 : Int32)) &&& (x - (1 : Int32))).toUInt32 >>> ((16 : Int32) &&& 31).toUInt32).toInt32))] (fun t' k => XS.sipush X0.here hx rfl (hb hby own_dt_35) k) ?_
      by_cases hc38 : (256 : Int32) < ((((x ^^^ (-1 : Int32)) &&& (x - (1 : Int32))).toUInt32 >>> ((16 : Int32) &&& 31).toUInt32).toInt32)
      · skip
        refine own_gs 41 [] (fun t' k => XS.icmpNo X0.here hx rfl (hb hby own_dt_38) rfl (tlt hc38).2.2.2 k) ?_
        refine own_go (mkF m 44 #[iv ((((x ^^^ (-1 : Int32)) &&& (x - (1 : Int32))).toUInt32 >>> ((16 : Int32) &&& 31).toUInt32).toInt32), iv (25 : Int32)] []) (fun t' k => XS.iinc X0.here hx rfl (hb hby own_dt_41) rfl rfl k) ?_
        refine own_gs 45 [(.int ((((x ^^^ (-1 : Int32)) &&& (x - (1 : Int32))).toUInt32 >>> ((16 : Int32) &&& 31).toUInt32).toInt32))] (fun t' k => XS.iloadN X0.here hx rfl (hb hby own_dt_44) rfl  k) ?_
        refine own_gs 47 [(.int (8 : Int32)), (.int ((((x ^^^ (-1 : Int32)) &&& (x - (1 : Int32))).toUInt32 >>> ((16 : Int32) &&& 31).toUInt32).toInt32))] (fun t' k => XS.bipush X0.here hx rfl (hb hby own_dt_45) k) ?_
        refine own_gs 48 [(.int ((((((x ^^^ (-1 : Int32)) &&& (x - (1 : Int32))).toUInt32 >>> ((16 : Int32) &&& 31).toUInt32).toInt32).toUInt32 >>> ((8 : Int32) &&& 31).toUInt32).toInt32))] (fun t' k => XS.iushr X0.here hx rfl (hb hby own_dt_47) rfl k) ?_
        refine own_go (mkF m 49 #[iv ((((((x ^^^ (-1 : Int32)) &&& (x - (1 : Int32))).toUInt32 >>> ((16 : Int32) &&& 31).toUInt32).toInt32).toUInt32 >>> ((8 : Int32) &&& 31).toUInt32).toInt32), iv (25 : Int32)] []) (fun t' k => XS.istoreN X0.here hx rfl (hb hby own_dt_48) rfl rfl k) ?_
        refine own_gs 50 [(.int ((((((x ^^^ (-1 : Int32)) &&& (x - (1 : Int32))).toUInt32 >>> ((16 : Int32) &&& 31).toUInt32).toInt32).toUInt32 >>> ((8 : Int32) &&& 31).toUInt32).toInt32))] (fun t' k => XS.iloadN X0.here hx rfl (hb hby own_dt_49) rfl  k) ?_
        refine own_gs 52 [(.int (16 : Int32)), (.int ((((((x ^^^ (-1 : Int32)) &&& (x - (1 : Int32))).toUInt32 >>> ((16 : Int32) &&& 31).toUInt32).toInt32).toUInt32 >>> ((8 : Int32) &&& 31).toUInt32).toInt32))] (fun t' k => XS.bipush X0.here hx rfl (hb hby own_dt_50) k) ?_
        by_cases hc52 : (16 : Int32) < ((((((x ^^^ (-1 : Int32)) &&& (x - (1 : Int32))).toUInt32 >>> ((16 : Int32) &&& 31).toUInt32).toInt32).toUInt32 >>> ((8 : Int32) &&& 31).toUInt32).toInt32)
        · skip
          refine own_gs 55 [] (fun t' k => XS.icmpNo X0.here hx rfl (hb hby own_dt_52) rfl (tlt hc52).2.2.2 k) ?_
          refine own_go (mkF m 58 #[iv ((((((x ^^^ (-1 : Int32)) &&& (x - (1 : Int32))).toUInt32 >>> ((16 : Int32) &&& 31).toUInt32).toInt32).toUInt32 >>> ((8 : Int32) &&& 31).toUInt32).toInt32), iv (29 : Int32)] []) (fun t' k => XS.iinc X0.here hx rfl (hb hby own_dt_55) rfl rfl k) ?_
          refine own_gs 59 [(.int ((((((x ^^^ (-1 : Int32)) &&& (x - (1 : Int32))).toUInt32 >>> ((16 : Int32) &&& 31).toUInt32).toInt32).toUInt32 >>> ((8 : Int32) &&& 31).toUInt32).toInt32))] (fun t' k => XS.iloadN X0.here hx rfl (hb hby own_dt_58) rfl  k) ?_
          refine own_gs 60 [(.int (4 : Int32)), (.int ((((((x ^^^ (-1 : Int32)) &&& (x - (1 : Int32))).toUInt32 >>> ((16 : Int32) &&& 31).toUInt32).toInt32).toUInt32 >>> ((8 : Int32) &&& 31).toUInt32).toInt32))] (fun t' k => XS.iconst X0.here hx rfl (hb hby own_dt_59) k) ?_
          refine own_gs 61 [(.int ((((((((x ^^^ (-1 : Int32)) &&& (x - (1 : Int32))).toUInt32 >>> ((16 : Int32) &&& 31).toUInt32).toInt32).toUInt32 >>> ((8 : Int32) &&& 31).toUInt32).toInt32).toUInt32 >>> ((4 : Int32) &&& 31).toUInt32).toInt32))] (fun t' k => XS.iushr X0.here hx rfl (hb hby own_dt_60) rfl k) ?_
          refine own_go (mkF m 62 #[iv ((((((((x ^^^ (-1 : Int32)) &&& (x - (1 : Int32))).toUInt32 >>> ((16 : Int32) &&& 31).toUInt32).toInt32).toUInt32 >>> ((8 : Int32) &&& 31).toUInt32).toInt32).toUInt32 >>> ((4 : Int32) &&& 31).toUInt32).toInt32), iv (29 : Int32)] []) (fun t' k => XS.istoreN X0.here hx rfl (hb hby own_dt_61) rfl rfl k) ?_
          refine own_gs 63 [(.int ((((((((x ^^^ (-1 : Int32)) &&& (x - (1 : Int32))).toUInt32 >>> ((16 : Int32) &&& 31).toUInt32).toInt32).toUInt32 >>> ((8 : Int32) &&& 31).toUInt32).toInt32).toUInt32 >>> ((4 : Int32) &&& 31).toUInt32).toInt32))] (fun t' k => XS.iloadN X0.here hx rfl (hb hby own_dt_62) rfl  k) ?_
          refine own_gs 64 [(.int (4 : Int32)), (.int ((((((((x ^^^ (-1 : Int32)) &&& (x - (1 : Int32))).toUInt32 >>> ((16 : Int32) &&& 31).toUInt32).toInt32).toUInt32 >>> ((8 : Int32) &&& 31).toUInt32).toInt32).toUInt32 >>> ((4 : Int32) &&& 31).toUInt32).toInt32))] (fun t' k => XS.iconst X0.here hx rfl (hb hby own_dt_63) k) ?_
          by_cases hc64 : (4 : Int32) < ((((((((x ^^^ (-1 : Int32)) &&& (x - (1 : Int32))).toUInt32 >>> ((16 : Int32) &&& 31).toUInt32).toInt32).toUInt32 >>> ((8 : Int32) &&& 31).toUInt32).toInt32).toUInt32 >>> ((4 : Int32) &&& 31).toUInt32).toInt32)
          · skip
            refine own_gs 67 [] (fun t' k => XS.icmpNo X0.here hx rfl (hb hby own_dt_64) rfl (tlt hc64).2.2.2 k) ?_
            refine own_go (mkF m 70 #[iv ((((((((x ^^^ (-1 : Int32)) &&& (x - (1 : Int32))).toUInt32 >>> ((16 : Int32) &&& 31).toUInt32).toInt32).toUInt32 >>> ((8 : Int32) &&& 31).toUInt32).toInt32).toUInt32 >>> ((4 : Int32) &&& 31).toUInt32).toInt32), iv (31 : Int32)] []) (fun t' k => XS.iinc X0.here hx rfl (hb hby own_dt_67) rfl rfl k) ?_
            refine own_gs 71 [(.int ((((((((x ^^^ (-1 : Int32)) &&& (x - (1 : Int32))).toUInt32 >>> ((16 : Int32) &&& 31).toUInt32).toInt32).toUInt32 >>> ((8 : Int32) &&& 31).toUInt32).toInt32).toUInt32 >>> ((4 : Int32) &&& 31).toUInt32).toInt32))] (fun t' k => XS.iloadN X0.here hx rfl (hb hby own_dt_70) rfl  k) ?_
            refine own_gs 72 [(.int (2 : Int32)), (.int ((((((((x ^^^ (-1 : Int32)) &&& (x - (1 : Int32))).toUInt32 >>> ((16 : Int32) &&& 31).toUInt32).toInt32).toUInt32 >>> ((8 : Int32) &&& 31).toUInt32).toInt32).toUInt32 >>> ((4 : Int32) &&& 31).toUInt32).toInt32))] (fun t' k => XS.iconst X0.here hx rfl (hb hby own_dt_71) k) ?_
            refine own_gs 73 [(.int ((((((((((x ^^^ (-1 : Int32)) &&& (x - (1 : Int32))).toUInt32 >>> ((16 : Int32) &&& 31).toUInt32).toInt32).toUInt32 >>> ((8 : Int32) &&& 31).toUInt32).toInt32).toUInt32 >>> ((4 : Int32) &&& 31).toUInt32).toInt32).toUInt32 >>> ((2 : Int32) &&& 31).toUInt32).toInt32))] (fun t' k => XS.iushr X0.here hx rfl (hb hby own_dt_72) rfl k) ?_
            refine own_go (mkF m 74 #[iv ((((((((((x ^^^ (-1 : Int32)) &&& (x - (1 : Int32))).toUInt32 >>> ((16 : Int32) &&& 31).toUInt32).toInt32).toUInt32 >>> ((8 : Int32) &&& 31).toUInt32).toInt32).toUInt32 >>> ((4 : Int32) &&& 31).toUInt32).toInt32).toUInt32 >>> ((2 : Int32) &&& 31).toUInt32).toInt32), iv (31 : Int32)] []) (fun t' k => XS.istoreN X0.here hx rfl (hb hby own_dt_73) rfl rfl k) ?_
            refine own_gs 75 [(.int (31 : Int32))] (fun t' k => XS.iloadN X0.here hx rfl (hb hby own_dt_74) rfl  k) ?_
            refine own_gs 76 [(.int ((((((((((x ^^^ (-1 : Int32)) &&& (x - (1 : Int32))).toUInt32 >>> ((16 : Int32) &&& 31).toUInt32).toInt32).toUInt32 >>> ((8 : Int32) &&& 31).toUInt32).toInt32).toUInt32 >>> ((4 : Int32) &&& 31).toUInt32).toInt32).toUInt32 >>> ((2 : Int32) &&& 31).toUInt32).toInt32)), (.int (31 : Int32))] (fun t' k => XS.iloadN X0.here hx rfl (hb hby own_dt_75) rfl  k) ?_
            refine own_gs 77 [(.int (1 : Int32)), (.int ((((((((((x ^^^ (-1 : Int32)) &&& (x - (1 : Int32))).toUInt32 >>> ((16 : Int32) &&& 31).toUInt32).toInt32).toUInt32 >>> ((8 : Int32) &&& 31).toUInt32).toInt32).toUInt32 >>> ((4 : Int32) &&& 31).toUInt32).toInt32).toUInt32 >>> ((2 : Int32) &&& 31).toUInt32).toInt32)), (.int (31 : Int32))] (fun t' k => XS.iconst X0.here hx rfl (hb hby own_dt_76) k) ?_
            refine own_gs 78 [(.int ((((((((((((x ^^^ (-1 : Int32)) &&& (x - (1 : Int32))).toUInt32 >>> ((16 : Int32) &&& 31).toUInt32).toInt32).toUInt32 >>> ((8 : Int32) &&& 31).toUInt32).toInt32).toUInt32 >>> ((4 : Int32) &&& 31).toUInt32).toInt32).toUInt32 >>> ((2 : Int32) &&& 31).toUInt32).toInt32).toUInt32 >>> ((1 : Int32) &&& 31).toUInt32).toInt32)), (.int (31 : Int32))] (fun t' k => XS.iushr X0.here hx rfl (hb hby own_dt_77) rfl k) ?_
            refine own_gs 79 [(.int ((31 : Int32) + ((((((((((((x ^^^ (-1 : Int32)) &&& (x - (1 : Int32))).toUInt32 >>> ((16 : Int32) &&& 31).toUInt32).toInt32).toUInt32 >>> ((8 : Int32) &&& 31).toUInt32).toInt32).toUInt32 >>> ((4 : Int32) &&& 31).toUInt32).toInt32).toUInt32 >>> ((2 : Int32) &&& 31).toUInt32).toInt32).toUInt32 >>> ((1 : Int32) &&& 31).toUInt32).toInt32)))] (fun t' k => XS.iadd X0.here hx rfl (hb hby own_dt_78) rfl k) ?_
            refine own_retI X0 hx hlk hret (hb hby own_dt_79) ?_ (by decide) (by decide)
            exact ⟨congrArg (fun z => some (Value.int z)) ((show (own_ntz x) = ((31 : Int32) + ((((((((((((x ^^^ (-1 : Int32)) &&& (x - (1 : Int32))).toUInt32 >>> ((16 : Int32) &&& 31).toUInt32).toInt32).toUInt32 >>> ((8 : Int32) &&& 31).toUInt32).toInt32).toUInt32 >>> ((4 : Int32) &&& 31).toUInt32).toInt32).toUInt32 >>> ((2 : Int32) &&& 31).toUInt32).toInt32).toUInt32 >>> ((1 : Int32) &&& 31).toUInt32).toInt32)) from ((if_pos hc9).trans ((if_pos hc23).trans ((if_pos hc38).trans ((if_pos hc52).trans ((if_pos hc64).trans rfl)))))).trans (by rfl : ((31 : Int32) + ((((((((((((x ^^^ (-1 : Int32)) &&& (x - (1 : Int32))).toUInt32 >>> ((16 : Int32) &&& 31).toUInt32).toInt32).toUInt32 >>> ((8 : Int32) &&& 31).toUInt32).toInt32).toUInt32 >>> ((4 : Int32) &&& 31).toUInt32).toInt32).toUInt32 >>> ((2 : Int32) &&& 31).toUInt32).toInt32).toUInt32 >>> ((1 : Int32) &&& 31).toUInt32).toInt32)) = ((31 : Int32) + ((((((((((((x ^^^ (-1 : Int32)) &&& (x - (1 : Int32))).toUInt32 >>> ((16 : Int32) &&& 31).toUInt32).toInt32).toUInt32 >>> ((8 : Int32) &&& 31).toUInt32).toInt32).toUInt32 >>> ((4 : Int32) &&& 31).toUInt32).toInt32).toUInt32 >>> ((2 : Int32) &&& 31).toUInt32).toInt32).toUInt32 >>> ((1 : Int32) &&& 31).toUInt32).toInt32)))).symm, e0, rfl⟩
          · skip
            refine own_gs 74 [] (fun t' k => XS.icmpYes X0.here hx rfl (pc0 := 64) (pc' := 74) rfl (hb hby own_dt_64) rfl (flt hc64).2.2.2 (by decide) (by decide) k) ?_
            refine own_gs 75 [(.int (29 : Int32))] (fun t' k => XS.iloadN X0.here hx rfl (hb hby own_dt_74) rfl  k) ?_
            refine own_gs 76 [(.int ((((((((x ^^^ (-1 : Int32)) &&& (x - (1 : Int32))).toUInt32 >>> ((16 : Int32) &&& 31).toUInt32).toInt32).toUInt32 >>> ((8 : Int32) &&& 31).toUInt32).toInt32).toUInt32 >>> ((4 : Int32) &&& 31).toUInt32).toInt32)), (.int (29 : Int32))] (fun t' k => XS.iloadN X0.here hx rfl (hb hby own_dt_75) rfl  k) ?_
            refine own_gs 77 [(.int (1 : Int32)), (.int ((((((((x ^^^ (-1 : Int32)) &&& (x - (1 : Int32))).toUInt32 >>> ((16 : Int32) &&& 31).toUInt32).toInt32).toUInt32 >>> ((8 : Int32) &&& 31).toUInt32).toInt32).toUInt32 >>> ((4 : Int32) &&& 31).toUInt32).toInt32)), (.int (29 : Int32))] (fun t' k => XS.iconst X0.here hx rfl (hb hby own_dt_76) k) ?_
            refine own_gs 78 [(.int ((((((((((x ^^^ (-1 : Int32)) &&& (x - (1 : Int32))).toUInt32 >>> ((16 : Int32) &&& 31).toUInt32).toInt32).toUInt32 >>> ((8 : Int32) &&& 31).toUInt32).toInt32).toUInt32 >>> ((4 : Int32) &&& 31).toUInt32).toInt32).toUInt32 >>> ((1 : Int32) &&& 31).toUInt32).toInt32)), (.int (29 : Int32))] (fun t' k => XS.iushr X0.here hx rfl (hb hby own_dt_77) rfl k) ?_
            refine own_gs 79 [(.int ((29 : Int32) + ((((((((((x ^^^ (-1 : Int32)) &&& (x - (1 : Int32))).toUInt32 >>> ((16 : Int32) &&& 31).toUInt32).toInt32).toUInt32 >>> ((8 : Int32) &&& 31).toUInt32).toInt32).toUInt32 >>> ((4 : Int32) &&& 31).toUInt32).toInt32).toUInt32 >>> ((1 : Int32) &&& 31).toUInt32).toInt32)))] (fun t' k => XS.iadd X0.here hx rfl (hb hby own_dt_78) rfl k) ?_
            refine own_retI X0 hx hlk hret (hb hby own_dt_79) ?_ (by decide) (by decide)
            exact ⟨congrArg (fun z => some (Value.int z)) ((show (own_ntz x) = ((29 : Int32) + ((((((((((x ^^^ (-1 : Int32)) &&& (x - (1 : Int32))).toUInt32 >>> ((16 : Int32) &&& 31).toUInt32).toInt32).toUInt32 >>> ((8 : Int32) &&& 31).toUInt32).toInt32).toUInt32 >>> ((4 : Int32) &&& 31).toUInt32).toInt32).toUInt32 >>> ((1 : Int32) &&& 31).toUInt32).toInt32)) from ((if_pos hc9).trans ((if_pos hc23).trans ((if_pos hc38).trans ((if_pos hc52).trans ((if_neg hc64).trans rfl)))))).trans (by rfl : ((29 : Int32) + ((((((((((x ^^^ (-1 : Int32)) &&& (x - (1 : Int32))).toUInt32 >>> ((16 : Int32) &&& 31).toUInt32).toInt32).toUInt32 >>> ((8 : Int32) &&& 31).toUInt32).toInt32).toUInt32 >>> ((4 : Int32) &&& 31).toUInt32).toInt32).toUInt32 >>> ((1 : Int32) &&& 31).toUInt32).toInt32)) = ((29 : Int32) + ((((((((((x ^^^ (-1 : Int32)) &&& (x - (1 : Int32))).toUInt32 >>> ((16 : Int32) &&& 31).toUInt32).toInt32).toUInt32 >>> ((8 : Int32) &&& 31).toUInt32).toInt32).toUInt32 >>> ((4 : Int32) &&& 31).toUInt32).toInt32).toUInt32 >>> ((1 : Int32) &&& 31).toUInt32).toInt32)))).symm, e0, rfl⟩
        · skip
          refine own_gs 62 [] (fun t' k => XS.icmpYes X0.here hx rfl (pc0 := 52) (pc' := 62) rfl (hb hby own_dt_52) rfl (flt hc52).2.2.2 (by decide) (by decide) k) ?_
          refine own_gs 63 [(.int ((((((x ^^^ (-1 : Int32)) &&& (x - (1 : Int32))).toUInt32 >>> ((16 : Int32) &&& 31).toUInt32).toInt32).toUInt32 >>> ((8 : Int32) &&& 31).toUInt32).toInt32))] (fun t' k => XS.iloadN X0.here hx rfl (hb hby own_dt_62) rfl  k) ?_
          refine own_gs 64 [(.int (4 : Int32)), (.int ((((((x ^^^ (-1 : Int32)) &&& (x - (1 : Int32))).toUInt32 >>> ((16 : Int32) &&& 31).toUInt32).toInt32).toUInt32 >>> ((8 : Int32) &&& 31).toUInt32).toInt32))] (fun t' k => XS.iconst X0.here hx rfl (hb hby own_dt_63) k) ?_
          by_cases hc64 : (4 : Int32) < ((((((x ^^^ (-1 : Int32)) &&& (x - (1 : Int32))).toUInt32 >>> ((16 : Int32) &&& 31).toUInt32).toInt32).toUInt32 >>> ((8 : Int32) &&& 31).toUInt32).toInt32)
          · skip
            refine own_gs 67 [] (fun t' k => XS.icmpNo X0.here hx rfl (hb hby own_dt_64) rfl (tlt hc64).2.2.2 k) ?_
            refine own_go (mkF m 70 #[iv ((((((x ^^^ (-1 : Int32)) &&& (x - (1 : Int32))).toUInt32 >>> ((16 : Int32) &&& 31).toUInt32).toInt32).toUInt32 >>> ((8 : Int32) &&& 31).toUInt32).toInt32), iv (27 : Int32)] []) (fun t' k => XS.iinc X0.here hx rfl (hb hby own_dt_67) rfl rfl k) ?_
            refine own_gs 71 [(.int ((((((x ^^^ (-1 : Int32)) &&& (x - (1 : Int32))).toUInt32 >>> ((16 : Int32) &&& 31).toUInt32).toInt32).toUInt32 >>> ((8 : Int32) &&& 31).toUInt32).toInt32))] (fun t' k => XS.iloadN X0.here hx rfl (hb hby own_dt_70) rfl  k) ?_
            refine own_gs 72 [(.int (2 : Int32)), (.int ((((((x ^^^ (-1 : Int32)) &&& (x - (1 : Int32))).toUInt32 >>> ((16 : Int32) &&& 31).toUInt32).toInt32).toUInt32 >>> ((8 : Int32) &&& 31).toUInt32).toInt32))] (fun t' k => XS.iconst X0.here hx rfl (hb hby own_dt_71) k) ?_
            refine own_gs 73 [(.int ((((((((x ^^^ (-1 : Int32)) &&& (x - (1 : Int32))).toUInt32 >>> ((16 : Int32) &&& 31).toUInt32).toInt32).toUInt32 >>> ((8 : Int32) &&& 31).toUInt32).toInt32).toUInt32 >>> ((2 : Int32) &&& 31).toUInt32).toInt32))] (fun t' k => XS.iushr X0.here hx rfl (hb hby own_dt_72) rfl k) ?_
            refine own_go (mkF m 74 #[iv ((((((((x ^^^ (-1 : Int32)) &&& (x - (1 : Int32))).toUInt32 >>> ((16 : Int32) &&& 31).toUInt32).toInt32).toUInt32 >>> ((8 : Int32) &&& 31).toUInt32).toInt32).toUInt32 >>> ((2 : Int32) &&& 31).toUInt32).toInt32), iv (27 : Int32)] []) (fun t' k => XS.istoreN X0.here hx rfl (hb hby own_dt_73) rfl rfl k) ?_
            refine own_gs 75 [(.int (27 : Int32))] (fun t' k => XS.iloadN X0.here hx rfl (hb hby own_dt_74) rfl  k) ?_
            refine own_gs 76 [(.int ((((((((x ^^^ (-1 : Int32)) &&& (x - (1 : Int32))).toUInt32 >>> ((16 : Int32) &&& 31).toUInt32).toInt32).toUInt32 >>> ((8 : Int32) &&& 31).toUInt32).toInt32).toUInt32 >>> ((2 : Int32) &&& 31).toUInt32).toInt32)), (.int (27 : Int32))] (fun t' k => XS.iloadN X0.here hx rfl (hb hby own_dt_75) rfl  k) ?_
            refine own_gs 77 [(.int (1 : Int32)), (.int ((((((((x ^^^ (-1 : Int32)) &&& (x - (1 : Int32))).toUInt32 >>> ((16 : Int32) &&& 31).toUInt32).toInt32).toUInt32 >>> ((8 : Int32) &&& 31).toUInt32).toInt32).toUInt32 >>> ((2 : Int32) &&& 31).toUInt32).toInt32)), (.int (27 : Int32))] (fun t' k => XS.iconst X0.here hx rfl (hb hby own_dt_76) k) ?_
            refine own_gs 78 [(.int ((((((((((x ^^^ (-1 : Int32)) &&& (x - (1 : Int32))).toUInt32 >>> ((16 : Int32) &&& 31).toUInt32).toInt32).toUInt32 >>> ((8 : Int32) &&& 31).toUInt32).toInt32).toUInt32 >>> ((2 : Int32) &&& 31).toUInt32).toInt32).toUInt32 >>> ((1 : Int32) &&& 31).toUInt32).toInt32)), (.int (27 : Int32))] (fun t' k => XS.iushr X0.here hx rfl (hb hby own_dt_77) rfl k) ?_
            refine own_gs 79 [(.int ((27 : Int32) + ((((((((((x ^^^ (-1 : Int32)) &&& (x - (1 : Int32))).toUInt32 >>> ((16 : Int32) &&& 31).toUInt32).toInt32).toUInt32 >>> ((8 : Int32) &&& 31).toUInt32).toInt32).toUInt32 >>> ((2 : Int32) &&& 31).toUInt32).toInt32).toUInt32 >>> ((1 : Int32) &&& 31).toUInt32).toInt32)))] (fun t' k => XS.iadd X0.here hx rfl (hb hby own_dt_78) rfl k) ?_
            refine own_retI X0 hx hlk hret (hb hby own_dt_79) ?_ (by decide) (by decide)
            exact ⟨congrArg (fun z => some (Value.int z)) ((show (own_ntz x) = ((27 : Int32) + ((((((((((x ^^^ (-1 : Int32)) &&& (x - (1 : Int32))).toUInt32 >>> ((16 : Int32) &&& 31).toUInt32).toInt32).toUInt32 >>> ((8 : Int32) &&& 31).toUInt32).toInt32).toUInt32 >>> ((2 : Int32) &&& 31).toUInt32).toInt32).toUInt32 >>> ((1 : Int32) &&& 31).toUInt32).toInt32)) from ((if_pos hc9).trans ((if_pos hc23).trans ((if_pos hc38).trans ((if_neg hc52).trans ((if_pos hc64).trans rfl)))))).trans (by rfl : ((27 : Int32) + ((((((((((x ^^^ (-1 : Int32)) &&& (x - (1 : Int32))).toUInt32 >>> ((16 : Int32) &&& 31).toUInt32).toInt32).toUInt32 >>> ((8 : Int32) &&& 31).toUInt32).toInt32).toUInt32 >>> ((2 : Int32) &&& 31).toUInt32).toInt32).toUInt32 >>> ((1 : Int32) &&& 31).toUInt32).toInt32)) = ((27 : Int32) + ((((((((((x ^^^ (-1 : Int32)) &&& (x - (1 : Int32))).toUInt32 >>> ((16 : Int32) &&& 31).toUInt32).toInt32).toUInt32 >>> ((8 : Int32) &&& 31).toUInt32).toInt32).toUInt32 >>> ((2 : Int32) &&& 31).toUInt32).toInt32).toUInt32 >>> ((1 : Int32) &&& 31).toUInt32).toInt32)))).symm, e0, rfl⟩
          · skip
            refine own_gs 74 [] (fun t' k => XS.icmpYes X0.here hx rfl (pc0 := 64) (pc' := 74) rfl (hb hby own_dt_64) rfl (flt hc64).2.2.2 (by decide) (by decide) k) ?_
            refine own_gs 75 [(.int (25 : Int32))] (fun t' k => XS.iloadN X0.here hx rfl (hb hby own_dt_74) rfl  k) ?_
            refine own_gs 76 [(.int ((((((x ^^^ (-1 : Int32)) &&& (x - (1 : Int32))).toUInt32 >>> ((16 : Int32) &&& 31).toUInt32).toInt32).toUInt32 >>> ((8 : Int32) &&& 31).toUInt32).toInt32)), (.int (25 : Int32))] (fun t' k => XS.iloadN X0.here hx rfl (hb hby own_dt_75) rfl  k) ?_
            refine own_gs 77 [(.int (1 : Int32)), (.int ((((((x ^^^ (-1 : Int32)) &&& (x - (1 : Int32))).toUInt32 >>> ((16 : Int32) &&& 31).toUInt32).toInt32).toUInt32 >>> ((8 : Int32) &&& 31).toUInt32).toInt32)), (.int (25 : Int32))] (fun t' k => XS.iconst X0.here hx rfl (hb hby own_dt_76) k) ?_
            refine own_gs 78 [(.int ((((((((x ^^^ (-1 : Int32)) &&& (x - (1 : Int32))).toUInt32 >>> ((16 : Int32) &&& 31).toUInt32).toInt32).toUInt32 >>> ((8 : Int32) &&& 31).toUInt32).toInt32).toUInt32 >>> ((1 : Int32) &&& 31).toUInt32).toInt32)), (.int (25 : Int32))] (fun t' k => XS.iushr X0.here hx rfl (hb hby own_dt_77) rfl k) ?_
            refine own_gs 79 [(.int ((25 : Int32) + ((((((((x ^^^ (-1 : Int32)) &&& (x - (1 : Int32))).toUInt32 >>> ((16 : Int32) &&& 31).toUInt32).toInt32).toUInt32 >>> ((8 : Int32) &&& 31).toUInt32).toInt32).toUInt32 >>> ((1 : Int32) &&& 31).toUInt32).toInt32)))] (fun t' k => XS.iadd X0.here hx rfl (hb hby own_dt_78) rfl k) ?_
            refine own_retI X0 hx hlk hret (hb hby own_dt_79) ?_ (by decide) (by decide)
            exact ⟨congrArg (fun z => some (Value.int z)) ((show (own_ntz x) = ((25 : Int32) + ((((((((x ^^^ (-1 : Int32)) &&& (x - (1 : Int32))).toUInt32 >>> ((16 : Int32) &&& 31).toUInt32).toInt32).toUInt32 >>> ((8 : Int32) &&& 31).toUInt32).toInt32).toUInt32 >>> ((1 : Int32) &&& 31).toUInt32).toInt32)) from ((if_pos hc9).trans ((if_pos hc23).trans ((if_pos hc38).trans ((if_neg hc52).trans ((if_neg hc64).trans rfl)))))).trans (by rfl : ((25 : Int32) + ((((((((x ^^^ (-1 : Int32)) &&& (x - (1 : Int32))).toUInt32 >>> ((16 : Int32) &&& 31).toUInt32).toInt32).toUInt32 >>> ((8 : Int32) &&& 31).toUInt32).toInt32).toUInt32 >>> ((1 : Int32) &&& 31).toUInt32).toInt32)) = ((25 : Int32) + ((((((((x ^^^ (-1 : Int32)) &&& (x - (1 : Int32))).toUInt32 >>> ((16 : Int32) &&& 31).toUInt32).toInt32).toUInt32 >>> ((8 : Int32) &&& 31).toUInt32).toInt32).toUInt32 >>> ((1 : Int32) &&& 31).toUInt32).toInt32)))).symm, e0, rfl⟩
      · skip
        refine own_gs 49 [] (fun t' k => XS.icmpYes X0.here hx rfl (pc0 := 38) (pc' := 49) rfl (hb hby own_dt_38) rfl (flt hc38).2.2.2 (by decide) (by decide) k) ?_
        refine own_gs 50 [(.int ((((x ^^^ (-1 : Int32)) &&& (x - (1 : Int32))).toUInt32 >>> ((16 : Int32) &&& 31).toUInt32).toInt32))] (fun t' k => XS.iloadN X0.here hx rfl (hb hby own_dt_49) rfl  k) ?_
        refine own_gs 52 [(.int (16 : Int32)), (.int ((((x ^^^ (-1 : Int32)) &&& (x - (1 : Int32))).toUInt32 >>> ((16 : Int32) &&& 31).toUInt32).toInt32))] (fun t' k => XS.bipush X0.here hx rfl (hb hby own_dt_50) k) ?_
        by_cases hc52 : (16 : Int32) < ((((x ^^^ (-1 : Int32)) &&& (x - (1 : Int32))).toUInt32 >>> ((16 : Int32) &&& 31).toUInt32).toInt32)
        · skip
          refine own_gs 55 [] (fun t' k => XS.icmpNo X0.here hx rfl (hb hby own_dt_52) rfl (tlt hc52).2.2.2 k) ?_
          refine own_go (mkF m 58 #[iv ((((x ^^^ (-1 : Int32)) &&& (x - (1 : Int32))).toUInt32 >>> ((16 : Int32) &&& 31).toUInt32).toInt32), iv (21 : Int32)] []) (fun t' k => XS.iinc X0.here hx rfl (hb hby own_dt_55) rfl rfl k) ?_
          refine own_gs 59 [(.int ((((x ^^^ (-1 : Int32)) &&& (x - (1 : Int32))).toUInt32 >>> ((16 : Int32) &&& 31).toUInt32).toInt32))] (fun t' k => XS.iloadN X0.here hx rfl (hb hby own_dt_58) rfl  k) ?_
          refine own_gs 60 [(.int (4 : Int32)), (.int ((((x ^^^ (-1 : Int32)) &&& (x - (1 : Int32))).toUInt32 >>> ((16 : Int32) &&& 31).toUInt32).toInt32))] (fun t' k => XS.iconst X0.here hx rfl (hb hby own_dt_59) k) ?_
          refine own_gs 61 [(.int ((((((x ^^^ (-1 : Int32)) &&& (x - (1 : Int32))).toUInt32 >>> ((16 : Int32) &&& 31).toUInt32).toInt32).toUInt32 >>> ((4 : Int32) &&& 31).toUInt32).toInt32))] (fun t' k => XS.iushr X0.here hx rfl (hb hby own_dt_60) rfl k) ?_
          refine own_go (mkF m 62 #[iv ((((((x ^^^ (-1 : Int32)) &&& (x - (1 : Int32))).toUInt32 >>> ((16 : Int32) &&& 31).toUInt32).toInt32).toUInt32 >>> ((4 : Int32) &&& 31).toUInt32).toInt32), iv (21 : Int32)] []) (fun t' k => XS.istoreN X0.here hx rfl (hb hby own_dt_61) rfl rfl k) ?_
          refine own_gs 63 [(.int ((((((x ^^^ (-1 : Int32)) &&& (x - (1 : Int32))).toUInt32 >>> ((16 : Int32) &&& 31).toUInt32).toInt32).toUInt32 >>> ((4 : Int32) &&& 31).toUInt32).toInt32))] (fun t' k => XS.iloadN X0.here hx rfl (hb hby own_dt_62) rfl  k) ?_
          refine own_gs 64 [(.int (4 : Int32)), (.int ((((((x ^^^ (-1 : Int32)) &&& (x - (1 : Int32))).toUInt32 >>> ((16 : Int32) &&& 31).toUInt32).toInt32).toUInt32 >>> ((4 : Int32) &&& 31).toUInt32).toInt32))] (fun t' k => XS.iconst X0.here hx rfl (hb hby own_dt_63) k) ?_
          by_cases hc64 : (4 : Int32) < ((((((x ^^^ (-1 : Int32)) &&& (x - (1 : Int32))).toUInt32 >>> ((16 : Int32) &&& 31).toUInt32).toInt32).toUInt32 >>> ((4 : Int32) &&& 31).toUInt32).toInt32)
          · skip
            refine own_gs 67 [] (fun t' k => XS.icmpNo X0.here hx rfl (hb hby own_dt_64) rfl (tlt hc64).2.2.2 k) ?_
            refine own_go (mkF m 70 #[iv ((((((x ^^^ (-1 : Int32)) &&& (x - (1 : Int32))).toUInt32 >>> ((16 : Int32) &&& 31).toUInt32).toInt32).toUInt32 >>> ((4 : Int32) &&& 31).toUInt32).toInt32), iv (23 : Int32)] []) (fun t' k => XS.iinc X0.here hx rfl (hb hby own_dt_67) rfl rfl k) ?_
            refine own_gs 71 [(.int ((((((x ^^^ (-1 : Int32)) &&& (x - (1 : Int32))).toUInt32 >>> ((16 : Int32) &&& 31).toUInt32).toInt32).toUInt32 >>> ((4 : Int32) &&& 31).toUInt32).toInt32))] (fun t' k => XS.iloadN X0.here hx rfl (hb hby own_dt_70) rfl  k) ?_
            refine own_gs 72 [(.int (2 : Int32)), (.int ((((((x ^^^ (-1 : Int32)) &&& (x - (1 : Int32))).toUInt32 >>> ((16 : Int32) &&& 31).toUInt32).toInt32).toUInt32 >>> ((4 : Int32) &&& 31).toUInt32).toInt32))] (fun t' k => XS.iconst X0.here hx rfl (hb hby own_dt_71) k) ?_
            refine own_gs 73 [(.int ((((((((x ^^^ (-1 : Int32)) &&& (x - (1 : Int32))).toUInt32 >>> ((16 : Int32) &&& 31).toUInt32).toInt32).toUInt32 >>> ((4 : Int32) &&& 31).toUInt32).toInt32).toUInt32 >>> ((2 : Int32) &&& 31).toUInt32).toInt32))] (fun t' k => XS.iushr X0.here hx rfl (hb hby own_dt_72) rfl k) ?_
            refine own_go (mkF m 74 #[iv ((((((((x ^^^ (-1 : Int32)) &&& (x - (1 : Int32))).toUInt32 >>> ((16 : Int32) &&& 31).toUInt32).toInt32).toUInt32 >>> ((4 : Int32) &&& 31).toUInt32).toInt32).toUInt32 >>> ((2 : Int32) &&& 31).toUInt32).toInt32), iv (23 : Int32)] []) (fun t' k => XS.istoreN X0.here hx rfl (hb hby own_dt_73) rfl rfl k) ?_
            refine own_gs 75 [(.int (23 : Int32))] (fun t' k => XS.iloadN X0.here hx rfl (hb hby own_dt_74) rfl  k) ?_
            refine own_gs 76 [(.int ((((((((x ^^^ (-1 : Int32)) &&& (x - (1 : Int32))).toUInt32 >>> ((16 : Int32) &&& 31).toUInt32).toInt32).toUInt32 >>> ((4 : Int32) &&& 31).toUInt32).toInt32).toUInt32 >>> ((2 : Int32) &&& 31).toUInt32).toInt32)), (.int (23 : Int32))] (fun t' k => XS.iloadN X0.here hx rfl (hb hby own_dt_75) rfl  k) ?_
            refine own_gs 77 [(.int (1 : Int32)), (.int ((((((((x ^^^ (-1 : Int32)) &&& (x - (1 : Int32))).toUInt32 >>> ((16 : Int32) &&& 31).toUInt32).toInt32).toUInt32 >>> ((4 : Int32) &&& 31).toUInt32).toInt32).toUInt32 >>> ((2 : Int32) &&& 31).toUInt32).toInt32)), (.int (23 : Int32))] (fun t' k => XS.iconst X0.here hx rfl (hb hby own_dt_76) k) ?_
            refine own_gs 78 [(.int ((((((((((x ^^^ (-1 : Int32)) &&& (x - (1 : Int32))).toUInt32 >>> ((16 : Int32) &&& 31).toUInt32).toInt32).toUInt32 >>> ((4 : Int32) &&& 31).toUInt32).toInt32).toUInt32 >>> ((2 : Int32) &&& 31).toUInt32).toInt32).toUInt32 >>> ((1 : Int32) &&& 31).toUInt32).toInt32)), (.int (23 : Int32))] (fun t' k => XS.iushr X0.here hx rfl (hb hby own_dt_77) rfl k) ?_
            refine own_gs 79 [(.int ((23 : Int32) + ((((((((((x ^^^ (-1 : Int32)) &&& (x - (1 : Int32))).toUInt32 >>> ((16 : Int32) &&& 31).toUInt32).toInt32).toUInt32 >>> ((4 : Int32) &&& 31).toUInt32).toInt32).toUInt32 >>> ((2 : Int32) &&& 31).toUInt32).toInt32).toUInt32 >>> ((1 : Int32) &&& 31).toUInt32).toInt32)))] (fun t' k => XS.iadd X0.here hx rfl (hb hby own_dt_78) rfl k) ?_
            refine own_retI X0 hx hlk hret (hb hby own_dt_79) ?_ (by decide) (by decide)
            exact ⟨congrArg (fun z => some (Value.int z)) ((show (own_ntz x) = ((23 : Int32) + ((((((((((x ^^^ (-1 : Int32)) &&& (x - (1 : Int32))).toUInt32 >>> ((16 : Int32) &&& 31).toUInt32).toInt32).toUInt32 >>> ((4 : Int32) &&& 31).toUInt32).toInt32).toUInt32 >>> ((2 : Int32) &&& 31).toUInt32).toInt32).toUInt32 >>> ((1 : Int32) &&& 31).toUInt32).toInt32)) from ((if_pos hc9).trans ((if_pos hc23).trans ((if_neg hc38).trans ((if_pos hc52).trans ((if_pos hc64).trans rfl)))))).trans (by rfl : ((23 : Int32) + ((((((((((x ^^^ (-1 : Int32)) &&& (x - (1 : Int32))).toUInt32 >>> ((16 : Int32) &&& 31).toUInt32).toInt32).toUInt32 >>> ((4 : Int32) &&& 31).toUInt32).toInt32).toUInt32 >>> ((2 : Int32) &&& 31).toUInt32).toInt32).toUInt32 >>> ((1 : Int32) &&& 31).toUInt32).toInt32)) = ((23 : Int32) + ((((((((((x ^^^ (-1 : Int32)) &&& (x - (1 : Int32))).toUInt32 >>> ((16 : Int32) &&& 31).toUInt32).toInt32).toUInt32 >>> ((4 : Int32) &&& 31).toUInt32).toInt32).toUInt32 >>> ((2 : Int32) &&& 31).toUInt32).toInt32).toUInt32 >>> ((1 : Int32) &&& 31).toUInt32).toInt32)))).symm, e0, rfl⟩
          · skip
            refine own_gs 74 [] (fun t' k => XS.icmpYes X0.here hx rfl (pc0 := 64) (pc' := 74) rfl (hb hby own_dt_64) rfl (flt hc64).2.2.2 (by decide) (by decide) k) ?_
            refine own_gs 75 [(.int (21 : Int32))] (fun t' k => XS.iloadN X0.here hx rfl (hb hby own_dt_74) rfl  k) ?_
            refine own_gs 76 [(.int ((((((x ^^^ (-1 : Int32)) &&& (x - (1 : Int32))).toUInt32 >>> ((16 : Int32) &&& 31).toUInt32).toInt32).toUInt32 >>> ((4 : Int32) &&& 31).toUInt32).toInt32)), (.int (21 : Int32))] (fun t' k => XS.iloadN X0.here hx rfl (hb hby own_dt_75) rfl  k) ?_
            refine own_gs 77 [(.int (1 : Int32)), (.int ((((((x ^^^ (-1 : Int32)) &&& (x - (1 : Int32))).toUInt32 >>> ((16 : Int32) &&& 31).toUInt32).toInt32).toUInt32 >>> ((4 : Int32) &&& 31).toUInt32).toInt32)), (.int (21 : Int32))] (fun t' k => XS.iconst X0.here hx rfl (hb hby own_dt_76) k) ?_
            refine own_gs 78 [(.int ((((((((x ^^^ (-1 : Int32)) &&& (x - (1 : Int32))).toUInt32 >>> ((16 : Int32) &&& 31).toUInt32).toInt32).toUInt32 >>> ((4 : Int32) &&& 31).toUInt32).toInt32).toUInt32 >>> ((1 : Int32) &&& 31).toUInt32).toInt32)), (.int (21 : Int32))] (fun t' k => XS.iushr X0.here hx rfl (hb hby own_dt_77) rfl k) ?_
            refine own_gs 79 [(.int ((21 : Int32) + ((((((((x ^^^ (-1 : Int32)) &&& (x - (1 : Int32))).toUInt32 >>> ((16 : Int32) &&& 31).toUInt32).toInt32).toUInt32 >>> ((4 : Int32) &&& 31).toUInt32).toInt32).toUInt32 >>> ((1 : Int32) &&& 31).toUInt32).toInt32)))] (fun t' k => XS.iadd X0.here hx rfl (hb hby own_dt_78) rfl k) ?_
            refine own_retI X0 hx hlk hret (hb hby own_dt_79) ?_ (by decide) (by decide)
            exact ⟨congrArg (fun z => some (Value.int z)) ((show (own_ntz x) = ((21 : Int32) + ((((((((x ^^^ (-1 : Int32)) &&& (x - (1 : Int32))).toUInt32 >>> ((16 : Int32) &&& 31).toUInt32).toInt32).toUInt32 >>> ((4 : Int32) &&& 31).toUInt32).toInt32).toUInt32 >>> ((1 : Int32) &&& 31).toUInt32).toInt32)) from ((if_pos hc9).trans ((if_pos hc23).trans ((if_neg hc38).trans ((if_pos hc52).trans ((if_neg hc64).trans rfl)))))).trans (by rfl : ((21 : Int32) + ((((((((x ^^^ (-1 : Int32)) &&& (x - (1 : Int32))).toUInt32 >>> ((16 : Int32) &&& 31).toUInt32).toInt32).toUInt32 >>> ((4 : Int32) &&& 31).toUInt32).toInt32).toUInt32 >>> ((1 : Int32) &&& 31).toUInt32).toInt32)) = ((21 : Int32) + ((((((((x ^^^ (-1 : Int32)) &&& (x - (1 : Int32))).toUInt32 >>> ((16 : Int32) &&& 31).toUInt32).toInt32).toUInt32 >>> ((4 : Int32) &&& 31).toUInt32).toInt32).toUInt32 >>> ((1 : Int32) &&& 31).toUInt32).toInt32)))).symm, e0, rfl⟩
        · skip
          refine own_gs 62 [] (fun t' k => XS.icmpYes X0.here hx rfl (pc0 := 52) (pc' := 62) rfl (hb hby own_dt_52) rfl (flt hc52).2.2.2 (by decide) (by decide) k) ?_
          refine own_gs 63 [(.int ((((x ^^^ (-1 : Int32)) &&& (x - (1 : Int32))).toUInt32 >>> ((16 : Int32) &&& 31).toUInt32).toInt32))] (fun t' k => XS.iloadN X0.here hx rfl (hb hby own_dt_62) rfl  k) ?_
          refine own_gs 64 [(.int (4 : Int32)), (.int ((((x ^^^ (-1 : Int32)) &&& (x - (1 : Int32))).toUInt32 >>> ((16 : Int32) &&& 31).toUInt32).toInt32))] (fun t' k => XS.iconst X0.here hx rfl (hb hby own_dt_63) k) ?_
          by_cases hc64 : (4 : Int32) < ((((x ^^^ (-1 : Int32)) &&& (x - (1 : Int32))).toUInt32 >>> ((16 : Int32) &&& 31).toUInt32).toInt32)
          · skip
            refine own_gs 67 [] (fun t' k => XS.icmpNo X0.here hx rfl (hb hby own_dt_64) rfl (tlt hc64).2.2.2 k) ?_
            refine own_go (mkF m 70 #[iv ((((x ^^^ (-1 : Int32)) &&& (x - (1 : Int32))).toUInt32 >>> ((16 : Int32) &&& 31).toUInt32).toInt32), iv (19 : Int32)] []) (fun t' k => XS.iinc X0.here hx rfl (hb hby own_dt_67) rfl rfl k) ?_
            refine own_gs 71 [(.int ((((x ^^^ (-1 : Int32)) &&& (x - (1 : Int32))).toUInt32 >>> ((16 : Int32) &&& 31).toUInt32).toInt32))] (fun t' k => XS.iloadN X0.here hx rfl (hb hby own_dt_70) rfl  k) ?_
            refine own_gs 72 [(.int (2 : Int32)), (.int ((((x ^^^ (-1 : Int32)) &&& (x - (1 : Int32))).toUInt32 >>> ((16 : Int32) &&& 31).toUInt32).toInt32))] (fun t' k => XS.iconst X0.here hx rfl (hb hby own_dt_71) k) ?_
            refine own_gs 73 [(.int ((((((x ^^^ (-1 : Int32)) &&& (x - (1 : Int32))).toUInt32 >>> ((16 : Int32) &&& 31).toUInt32).toInt32).toUInt32 >>> ((2 : Int32) &&& 31).toUInt32).toInt32))] (fun t' k => XS.iushr X0.here hx rfl (hb hby own_dt_72) rfl k) ?_
            refine own_go (mkF m 74 #[iv ((((((x ^^^ (-1 : Int32)) &&& (x - (1 : Int32))).toUInt32 >>> ((16 : Int32) &&& 31).toUInt32).toInt32).toUInt32 >>> ((2 : Int32) &&& 31).toUInt32).toInt32), iv (19 : Int32)] []) (fun t' k => XS.istoreN X0.here hx rfl (hb hby own_dt_73) rfl rfl k) ?_
            refine own_gs 75 [(.int (19 : Int32))] (fun t' k => XS.iloadN X0.here hx rfl (hb hby own_dt_74) rfl  k) ?_
            refine own_gs 76 [(.int ((((((x ^^^ (-1 : Int32)) &&& (x - (1 : Int32))).toUInt32 >>> ((16 : Int32) &&& 31).toUInt32).toInt32).toUInt32 >>> ((2 : Int32) &&& 31).toUInt32).toInt32)), (.int (19 : Int32))] (fun t' k => XS.iloadN X0.here hx rfl (hb hby own_dt_75) rfl  k) ?_
            refine own_gs 77 [(.int (1 : Int32)), (.int ((((((x ^^^ (-1 : Int32)) &&& (x - (1 : Int32))).toUInt32 >>> ((16 : Int32) &&& 31).toUInt32).toInt32).toUInt32 >>> ((2 : Int32) &&& 31).toUInt32).toInt32)), (.int (19 : Int32))] (fun t' k => XS.iconst X0.here hx rfl (hb hby own_dt_76) k) ?_
            refine own_gs 78 [(.int ((((((((x ^^^ (-1 : Int32)) &&& (x - (1 : Int32))).toUInt32 >>> ((16 : Int32) &&& 31).toUInt32).toInt32).toUInt32 >>> ((2 : Int32) &&& 31).toUInt32).toInt32).toUInt32 >>> ((1 : Int32) &&& 31).toUInt32).toInt32)), (.int (19 : Int32))] (fun t' k => XS.iushr X0.here hx rfl (hb hby own_dt_77) rfl k) ?_
            refine own_gs 79 [(.int ((19 : Int32) + ((((((((x ^^^ (-1 : Int32)) &&& (x - (1 : Int32))).toUInt32 >>> ((16 : Int32) &&& 31).toUInt32).toInt32).toUInt32 >>> ((2 : Int32) &&& 31).toUInt32).toInt32).toUInt32 >>> ((1 : Int32) &&& 31).toUInt32).toInt32)))] (fun t' k => XS.iadd X0.here hx rfl (hb hby own_dt_78) rfl k) ?_
            refine own_retI X0 hx hlk hret (hb hby own_dt_79) ?_ (by decide) (by decide)
            exact ⟨congrArg (fun z => some (Value.int z)) ((show (own_ntz x) = ((19 : Int32) + ((((((((x ^^^ (-1 : Int32)) &&& (x - (1 : Int32))).toUInt32 >>> ((16 : Int32) &&& 31).toUInt32).toInt32).toUInt32 >>> ((2 : Int32) &&& 31).toUInt32).toInt32).toUInt32 >>> ((1 : Int32) &&& 31).toUInt32).toInt32)) from ((if_pos hc9).trans ((if_pos hc23).trans ((if_neg hc38).trans ((if_neg hc52).trans ((if_pos hc64).trans rfl)))))).trans (by rfl : ((19 : Int32) + ((((((((x ^^^ (-1 : Int32)) &&& (x - (1 : Int32))).toUInt32 >>> ((16 : Int32) &&& 31).toUInt32).toInt32).toUInt32 >>> ((2 : Int32) &&& 31).toUInt32).toInt32).toUInt32 >>> ((1 : Int32) &&& 31).toUInt32).toInt32)) = ((19 : Int32) + ((((((((x ^^^ (-1 : Int32)) &&& (x - (1 : Int32))).toUInt32 >>> ((16 : Int32) &&& 31).toUInt32).toInt32).toUInt32 >>> ((2 : Int32) &&& 31).toUInt32).toInt32).toUInt32 >>> ((1 : Int32) &&& 31).toUInt32).toInt32)))).symm, e0, rfl⟩
          · skip
            refine own_gs 74 [] (fun t' k => XS.icmpYes X0.here hx rfl (pc0 := 64) (pc' := 74) rfl (hb hby own_dt_64) rfl (flt hc64).2.2.2 (by decide) (by decide) k) ?_
            refine own_gs 75 [(.int (17 : Int32))] (fun t' k => XS.iloadN X0.here hx rfl (hb hby own_dt_74) rfl  k) ?_
            refine own_gs 76 [(.int ((((x ^^^ (-1 : Int32)) &&& (x - (1 : Int32))).toUInt32 >>> ((16 : Int32) &&& 31).toUInt32).toInt32)), (.int (17 : Int32))] (fun t' k => XS.iloadN X0.here hx rfl (hb hby own_dt_75) rfl  k) ?_
            refine own_gs 77 [(.int (1 : Int32)), (.int ((((x ^^^ (-1 : Int32)) &&& (x - (1 : Int32))).toUInt32 >>> ((16 : Int32) &&& 31).toUInt32).toInt32)), (.int (17 : Int32))] (fun t' k => XS.iconst X0.here hx rfl (hb hby own_dt_76) k) ?_
            refine own_gs 78 [(.int ((((((x ^^^ (-1 : Int32)) &&& (x - (1 : Int32))).toUInt32 >>> ((16 : Int32) &&& 31).toUInt32).toInt32).toUInt32 >>> ((1 : Int32) &&& 31).toUInt32).toInt32)), (.int (17 : Int32))] (fun t' k => XS.iushr X0.here hx rfl (hb hby own_dt_77) rfl k) ?_
            refine own_gs 79 [(.int ((17 : Int32) + ((((((x ^^^ (-1 : Int32)) &&& (x - (1 : Int32))).toUInt32 >>> ((16 : Int32) &&& 31).toUInt32).toInt32).toUInt32 >>> ((1 : Int32) &&& 31).toUInt32).toInt32)))] (fun t' k => XS.iadd X0.here hx rfl (hb hby own_dt_78) rfl k) ?_
            refine own_retI X0 hx hlk hret (hb hby own_dt_79) ?_ (by decide) (by decide)
            exact ⟨congrArg (fun z => some (Value.int z)) ((show (own_ntz x) = ((17 : Int32) + ((((((x ^^^ (-1 : Int32)) &&& (x - (1 : Int32))).toUInt32 >>> ((16 : Int32) &&& 31).toUInt32).toInt32).toUInt32 >>> ((1 : Int32) &&& 31).toUInt32).toInt32)) from ((if_pos hc9).trans ((if_pos hc23).trans ((if_neg hc38).trans ((if_neg hc52).trans ((if_neg hc64).trans rfl)))))).trans (by rfl : ((17 : Int32) + ((((((x ^^^ (-1 : Int32)) &&& (x - (1 : Int32))).toUInt32 >>> ((16 : Int32) &&& 31).toUInt32).toInt32).toUInt32 >>> ((1 : Int32) &&& 31).toUInt32).toInt32)) = ((17 : Int32) + ((((((x ^^^ (-1 : Int32)) &&& (x - (1 : Int32))).toUInt32 >>> ((16 : Int32) &&& 31).toUInt32).toInt32).toUInt32 >>> ((1 : Int32) &&& 31).toUInt32).toInt32)))).symm, e0, rfl⟩
    · skip
      refine own_gs 34 [] (fun t' k => XS.icmpYes X0.here hx rfl (pc0 := 23) (pc' := 34) rfl (hb hby own_dt_23) rfl (flt hc23).2.2.2 (by decide) (by decide) k) ?_
      refine own_gs 35 [(.int ((x ^^^ (-1 : Int32)) &&& (x - (1 : Int32))))] (fun t' k => XS.iloadN X0.here hx rfl (hb hby own_dt_34) rfl  k) ?_
      refine own_gs 38 [(.int (256 : Int32)), (.int ((x ^^^ (-1 : Int32)) &&& (x - (1 : Int32))))] (fun t' k => XS.sipush X0.here hx rfl (hb hby own_dt_35) k) ?_
      by_cases hc38 : (256 : Int32) < ((x ^^^ (-1 : Int32)) &&& (x - (1 : Int32)))
      · skip
        refine own_gs 41 [] (fun t' k => XS.icmpNo X0.here hx rfl (hb hby own_dt_38) rfl (tlt hc38).2.2.2 k) ?_
        refine own_go (mkF m 44 #[iv ((x ^^^ (-1 : Int32)) &&& (x - (1 : Int32))), iv (9 : Int32)] []) (fun t' k => XS.iinc X0.here hx rfl (hb hby own_dt_41) rfl rfl k) ?_
        refine own_gs 45 [(.int ((x ^^^ (-1 : Int32)) &&& (x - (1 : Int32))))] (fun t' k => XS.iloadN X0.here hx rfl (hb hby own_dt_44) rfl  k) ?_
        refine own_gs 47 [(.int (8 : Int32)), (.int ((x ^^^ (-1 : Int32)) &&& (x - (1 : Int32))))] (fun t' k => XS.bipush X0.here hx rfl (hb hby own_dt_45) k) ?_
        refine own_gs 48 [(.int ((((x ^^^ (-1 : Int32)) &&& (x - (1 : Int32))).toUInt32 >>> ((8 : Int32) &&& 31).toUInt32).toInt32))] (fun t' k => XS.iushr X0.here hx rfl (hb hby own_dt_47) rfl k) ?_
        refine own_go (mkF m 49 #[iv ((((x ^^^ (-1 : Int32)) &&& (x - (1 : Int32))).toUInt32 >>> ((8 : Int32) &&& 31).toUInt32).toInt32), iv (9 : Int32)] []) (fun t' k => XS.istoreN X0.here hx rfl (hb hby own_dt_48) rfl rfl k) ?_
        refine own_gs 50 [(.int ((((x ^^^ (-1 : Int32)) &&& (x - (1 : Int32))).toUInt32 >>> ((8 : Int32) &&& 31).toUInt32).toInt32))] (fun t' k => XS.iloadN X0.here hx rfl (hb hby own_dt_49) rfl  k) ?_
        refine own_gs 52 [(.int (16 : Int32)), (.int ((((x ^^^ (-1 : Int32)) &&& (x - (1 : Int32))).toUInt32 >>> ((8 : Int32) &&& 31).toUInt32).toInt32))] (fun t' k => XS.bipush X0.here hx rfl (hb hby own_dt_50) k) ?_
        by_cases hc52 : (16 : Int32) < ((((x ^^^ (-1 : Int32)) &&& (x - (1 : Int32))).toUInt32 >>> ((8 : Int32) &&& 31).toUInt32).toInt32)
        · skip
          refine own_gs 55 [] (fun t' k => XS.icmpNo X0.here hx rfl (hb hby own_dt_52) rfl (tlt hc52).2.2.2 k) ?_
          refine own_go (mkF m 58 #[iv ((((x ^^^ (-1 : Int32)) &&& (x - (1 : Int32))).toUInt32 >>> ((8 : Int32) &&& 31).toUInt32).toInt32), iv (13 : Int32)] []) (fun t' k => XS.iinc X0.here hx rfl (hb hby own_dt_55) rfl rfl k) ?_
          refine own_gs 59 [(.int ((((x ^^^ (-1 : Int32)) &&& (x - (1 : Int32))).toUInt32 >>> ((8 : Int32) &&& 31).toUInt32).toInt32))] (fun t' k => XS.iloadN X0.here hx rfl (hb hby own_dt_58) rfl  k) ?_
          refine own_gs 60 [(.int (4 : Int32)), (.int ((((x ^^^ (-1 : Int32)) &&& (x - (1 : Int32))).toUInt32 >>> ((8 : Int32) &&& 31).toUInt32).toInt32))] (fun t' k => XS.iconst X0.here hx rfl (hb hby own_dt_59) k) ?_
          refine own_gs 61 [(.int ((((((x ^^^ (-1 : Int32)) &&& (x - (1 : Int32))).toUInt32 >>> ((8 : Int32) &&& 31).toUInt32).toInt32).toUInt32 >>> ((4 : Int32) &&& 31).toUInt32).toInt32))] (fun t' k => XS.iushr X0.here hx rfl (hb hby own_dt_60) rfl k) ?_
          refine own_go (mkF m 62 #[iv ((((((x ^^^ (-1 : Int32)) &&& (x - (1 : Int32))).toUInt32 >>> ((8 : Int32) &&& 31).toUInt32).toInt32).toUInt32 >>> ((4 : Int32) &&& 31).toUInt32).toInt32), iv (13 : Int32)] []) (fun t' k => XS.istoreN X0.here hx rfl (hb hby own_dt_61) rfl rfl k) ?_
          refine own_gs 63 [(.int ((((((x ^^^ (-1 : Int32)) &&& (x - (1 : Int32))).toUInt32 >>> ((8 : Int32) &&& 31).toUInt32).toInt32).toUInt32 >>> ((4 : Int32) &&& 31).toUInt32).toInt32))] (fun t' k => XS.iloadN X0.here hx rfl (hb hby own_dt_62) rfl  k) ?_
          refine own_gs 64 [(.int (4 : Int32)), (.int ((((((x ^^^ (-1 : Int32)) &&& (x - (1 : Int32))).toUInt32 >>> ((8 : Int32) &&& 31).toUInt32).toInt32).toUInt32 >>> ((4 : Int32) &&& 31).toUInt32).toInt32))] (fun t' k => XS.iconst X0.here hx rfl (hb hby own_dt_63) k) ?_
          by_cases hc64 : (4 : Int32) < ((((((x ^^^ (-1 : Int32)) &&& (x - (1 : Int32))).toUInt32 >>> ((8 : Int32) &&& 31).toUInt32).toInt32).toUInt32 >>> ((4 : Int32) &&& 31).toUInt32).toInt32)
          · skip
            refine own_gs 67 [] (fun t' k => XS.icmpNo X0.here hx rfl (hb hby own_dt_64) rfl (tlt hc64).2.2.2 k) ?_
            refine own_go (mkF m 70 #[iv ((((((x ^^^ (-1 : Int32)) &&& (x - (1 : Int32))).toUInt32 >>> ((8 : Int32) &&& 31).toUInt32).toInt32).toUInt32 >>> ((4 : Int32) &&& 31).toUInt32).toInt32), iv (15 : Int32)] []) (fun t' k => XS.iinc X0.here hx rfl (hb hby own_dt_67) rfl rfl k) ?_
            refine own_gs 71 [(.int ((((((x ^^^ (-1 : Int32)) &&& (x - (1 : Int32))).toUInt32 >>> ((8 : Int32) &&& 31).toUInt32).toInt32).toUInt32 >>> ((4 : Int32) &&& 31).toUInt32).toInt32))] (fun t' k => XS.iloadN X0.here hx rfl (hb hby own_dt_70) rfl  k) ?_
            refine own_gs 72 [(.int (2 : Int32)), (.int ((((((x ^^^ (-1 : Int32)) &&& (x - (1 : Int32))).toUInt32 >>> ((8 : Int32) &&& 31).toUInt32).toInt32).toUInt32 >>> ((4 : Int32) &&& 31).toUInt32).toInt32))] (fun t' k => XS.iconst X0.here hx rfl (hb hby own_dt_71) k) ?_
            refine own_gs 73 [(.int ((((((((x ^^^ (-1 : Int32)) &&& (x - (1 : Int32))).toUInt32 >>> ((8 : Int32) &&& 31).toUInt32).toInt32).toUInt32 >>> ((4 : Int32) &&& 31).toUInt32).toInt32).toUInt32 >>> ((2 : Int32) &&& 31).toUInt32).toInt32))] (fun t' k => XS.iushr X0.here hx rfl (hb hby own_dt_72) rfl k) ?_
            refine own_go (mkF m 74 #[iv ((((((((x ^^^ (-1 : Int32)) &&& (x - (1 : Int32))).toUInt32 >>> ((8 : Int32) &&& 31).toUInt32).toInt32).toUInt32 >>> ((4 : Int32) &&& 31).toUInt32).toInt32).toUInt32 >>> ((2 : Int32) &&& 31).toUInt32).toInt32), iv (15 : Int32)] []) (fun t' k => XS.istoreN X0.here hx rfl (hb hby own_dt_73) rfl rfl k) ?_
            refine own_gs 75 [(.int (15 : Int32))] (fun t' k => XS.iloadN X0.here hx rfl (hb hby own_dt_74) rfl  k) ?_
            refine own_gs 76 [(.int ((((((((x ^^^ (-1 : Int32)) &&& (x - (1 : Int32))).toUInt32 >>> ((8 : Int32) &&& 31).toUInt32).toInt32).toUInt32 >>> ((4 : Int32) &&& 31).toUInt32).toInt32).toUInt32 >>> ((2 : Int32) &&& 31).toUInt32).toInt32)), (.int (15 : Int32))] (fun t' k => XS.iloadN X0.here hx rfl (hb hby own_dt_75) rfl  k) ?_
            refine own_gs 77 [(.int (1 : Int32)), (.int ((((((((x ^^^ (-1 : Int32)) &&& (x - (1 : Int32))).toUInt32 >>> ((8 : Int32) &&& 31).toUInt32).toInt32).toUInt32 >>> ((4 : Int32) &&& 31).toUInt32).toInt32).toUInt32 >>> ((2 : Int32) &&& 31).toUInt32).toInt32)), (.int (15 : Int32))] (fun t' k => XS.iconst X0.here hx rfl (hb hby own_dt_76) k) ?_
            refine own_gs 78 [(.int ((((((((((x ^^^ (-1 : Int32)) &&& (x - (1 : Int32))).toUInt32 >>> ((8 : Int32) &&& 31).toUInt32).toInt32).toUInt32 >>> ((4 : Int32) &&& 31).toUInt32).toInt32).toUInt32 >>> ((2 : Int32) &&& 31).toUInt32).toInt32).toUInt32 >>> ((1 : Int32) &&& 31).toUInt32).toInt32)), (.int (15 : Int32))] (fun t' k => XS.iushr X0.here hx rfl (hb hby own_dt_77) rfl k) ?_
            refine own_gs 79 [(.int ((15 : Int32) + ((((((((((x ^^^ (-1 : Int32)) &&& (x - (1 : Int32))).toUInt32 >>> ((8 : Int32) &&& 31).toUInt32).toInt32).toUInt32 >>> ((4 : Int32) &&& 31).toUInt32).toInt32).toUInt32 >>> ((2 : Int32) &&& 31).toUInt32).toInt32).toUInt32 >>> ((1 : Int32) &&& 31).toUInt32).toInt32)))] (fun t' k => XS.iadd X0.here hx rfl (hb hby own_dt_78) rfl k) ?_
            refine own_retI X0 hx hlk hret (hb hby own_dt_79) ?_ (by decide) (by decide)
            exact ⟨congrArg (fun z => some (Value.int z)) ((show (own_ntz x) = ((15 : Int32) + ((((((((((x ^^^ (-1 : Int32)) &&& (x - (1 : Int32))).toUInt32 >>> ((8 : Int32) &&& 31).toUInt32).toInt32).toUInt32 >>> ((4 : Int32) &&& 31).toUInt32).toInt32).toUInt32 >>> ((2 : Int32) &&& 31).toUInt32).toInt32).toUInt32 >>> ((1 : Int32) &&& 31).toUInt32).toInt32)) from ((if_pos hc9).trans ((if_neg hc23).trans ((if_pos hc38).trans ((if_pos hc52).trans ((if_pos hc64).trans rfl)))))).trans (by rfl : ((15 : Int32) + ((((((((((x ^^^ (-1 : Int32)) &&& (x - (1 : Int32))).toUInt32 >>> ((8 : Int32) &&& 31).toUInt32).toInt32).toUInt32 >>> ((4 : Int32) &&& 31).toUInt32).toInt32).toUInt32 >>> ((2 : Int32) &&& 31).toUInt32).toInt32).toUInt32 >>> ((1 : Int32) &&& 31).toUInt32).toInt32)) = ((15 : Int32) + ((((((((((x ^^^ (-1 : Int32)) &&& (x - (1 : Int32))).toUInt32 >>> ((8 : Int32) &&& 31).toUInt32).toInt32).toUInt32 >>> ((4 : Int32) &&& 31).toUInt32).toInt32).toUInt32 >>> ((2 : Int32) &&& 31).toUInt32).toInt32).toUInt32 >>> ((1 : Int32) &&& 31).toUInt32).toInt32)))).symm, e0, rfl⟩
          · skip
            refine own_gs 74 [] (fun t' k => XS.icmpYes X0.here hx rfl (pc0 := 64) (pc' := 74) rfl (hb hby own_dt_64) rfl (flt hc64).2.2.2 (by decide) (by decide) k) ?_
            refine own_gs 75 [(.int (13 : Int32))] (fun t' k => XS.iloadN X0.here hx rfl (hb hby own_dt_74) rfl  k) ?_
            refine own_gs 76 [(.int ((((((x ^^^ (-1 : Int32)) &&& (x - (1 : Int32))).toUInt32 >>> ((8 : Int32) &&& 31).toUInt32).toInt32).toUInt32 >>> ((4 : Int32) &&& 31).toUInt32).toInt32)), (.int (13 : Int32))] (fun t' k => XS.iloadN X0.here hx rfl (hb hby own_dt_75) rfl  k) ?_
            refine own_gs 77 [(.int (1 : Int32)), (.int ((((((x ^^^ (-1 : Int32)) &&& (x - (1 : Int32))).toUInt32 >>> ((8 : Int32) &&& 31).toUInt32).toInt32).toUInt32 >>> ((4 : Int32) &&& 31).toUInt32).toInt32)), (.int (13 : Int32))] (fun t' k => XS.iconst X0.here hx rfl (hb hby own_dt_76) k) ?_
            refine own_gs 78 [(.int ((((((((x ^^^ (-1 : Int32)) &&& (x - (1 : Int32))).toUInt32 >>> ((8 : Int32) &&& 31).toUInt32).toInt32).toUInt32 >>> ((4 : Int32) &&& 31).toUInt32).toInt32).toUInt32 >>> ((1 : Int32) &&& 31).toUInt32).toInt32)), (.int (13 : Int32))] (fun t' k => XS.iushr X0.here hx rfl (hb hby own_dt_77) rfl k) ?_
            refine own_gs 79 [(.int ((13 : Int32) + ((((((((x ^^^ (-1 : Int32)) &&& (x - (1 : Int32))).toUInt32 >>> ((8 : Int32) &&& 31).toUInt32).toInt32).toUInt32 >>> ((4 : Int32) &&& 31).toUInt32).toInt32).toUInt32 >>> ((1 : Int32) &&& 31).toUInt32).toInt32)))] (fun t' k => XS.iadd X0.here hx rfl (hb hby own_dt_78) rfl k) ?_
            refine own_retI X0 hx hlk hret (hb hby own_dt_79) ?_ (by decide) (by decide)
            exact ⟨congrArg (fun z => some (Value.int z)) ((show (own_ntz x) = ((13 : Int32) + ((((((((x ^^^ (-1 : Int32)) &&& (x - (1 : Int32))).toUInt32 >>> ((8 : Int32) &&& 31).toUInt32).toInt32).toUInt32 >>> ((4 : Int32) &&& 31).toUInt32).toInt32).toUInt32 >>> ((1 : Int32) &&& 31).toUInt32).toInt32)) from ((if_pos hc9).trans ((if_neg hc23).trans ((if_pos hc38).trans ((if_pos hc52).trans ((if_neg hc64).trans rfl)))))).trans (by rfl : ((13 : Int32) + ((((((((x ^^^ (-1 : Int32)) &&& (x - (1 : Int32))).toUInt32 >>> ((8 : Int32) &&& 31).toUInt32).toInt32).toUInt32 >>> ((4 : Int32) &&& 31).toUInt32).toInt32).toUInt32 >>> ((1 : Int32) &&& 31).toUInt32).toInt32)) = ((13 : Int32) + ((((((((x ^^^ (-1 : Int32)) &&& (x - (1 : Int32))).toUInt32 >>> ((8 : Int32) &&& 31).toUInt32).toInt32).toUInt32 >>> ((4 : Int32) &&& 31).toUInt32).toInt32).toUInt32 >>> ((1 : Int32) &&& 31).toUInt32).toInt32)))).symm, e0, rfl⟩
        · skip
          refine own_gs 62 [] (fun t' k => XS.icmpYes X0.here hx rfl (pc0 := 52) (pc' := 62) rfl (hb hby own_dt_52) rfl (flt hc52).2.2.2 (by decide) (by decide) k) ?_
          refine own_gs 63 [(.int ((((x ^^^ (-1 : Int32)) &&& (x - (1 : Int32))).toUInt32 >>> ((8 : Int32) &&& 31).toUInt32).toInt32))] (fun t' k => XS.iloadN X0.here hx rfl (hb hby own_dt_62) rfl  k) ?_
          refine own_gs 64 [(.int (4 : Int32)), (.int ((((x ^^^ (-1 : Int32)) &&& (x - (1 : Int32))).toUInt32 >>> ((8 : Int32) &&& 31).toUInt32).toInt32))] (fun t' k => XS.iconst X0.here hx rfl (hb hby own_dt_63) k) ?_
          by_cases hc64 : (4 : Int32) < ((((x ^^^ (-1 : Int32)) &&& (x - (1 : Int32))).toUInt32 >>> ((8 : Int32) &&& 31).toUInt32).toInt32)
          · skip
            refine own_gs 67 [] (fun t' k => XS.icmpNo X0.here hx rfl (hb hby own_dt_64) rfl (tlt hc64).2.2.2 k) ?_
            refine own_go (mkF m 70 #[iv ((((x ^^^ (-1 : Int32)) &&& (x - (1 : Int32))).toUInt32 >>> ((8 : Int32) &&& 31).toUInt32).toInt32), iv (11 : Int32)] []) (fun t' k => XS.iinc X0.here hx rfl (hb hby own_dt_67) rfl rfl k) ?_
            refine own_gs 71 [(.int ((((x ^^^ (-1 : Int32)) &&& (x - (1 : Int32))).toUInt32 >>> ((8 : Int32) &&& 31).toUInt32).toInt32))] (fun t' k => XS.iloadN X0.here hx rfl (hb hby own_dt_70) rfl  k) ?_
            refine own_gs 72 [(.int (2 : Int32)), (.int ((((x ^^^ (-1 : Int32)) &&& (x - (1 : Int32))).toUInt32 >>> ((8 : Int32) &&& 31).toUInt32).toInt32))] (fun t' k => XS.iconst X0.here hx rfl (hb hby own_dt_71) k) ?_
            refine own_gs 73 [(.int ((((((x ^^^ (-1 : Int32)) &&& (x - (1 : Int32))).toUInt32 >>> ((8 : Int32) &&& 31).toUInt32).toInt32).toUInt32 >>> ((2 : Int32) &&& 31).toUInt32).toInt32))] (fun t' k => XS.iushr X0.here hx rfl (hb hby own_dt_72) rfl k) ?_
            refine own_go (mkF m 74 #[iv ((((((x ^^^ (-1 : Int32)) &&& (x - (1 : Int32))).toUInt32 >>> ((8 : Int32) &&& 31).toUInt32).toInt32).toUInt32 >>> ((2 : Int32) &&& 31).toUInt32).toInt32), iv (11 : Int32)] []) (fun t' k => XS.istoreN X0.here hx rfl (hb hby own_dt_73) rfl rfl k) ?_
            refine own_gs 75 [(.int (11 : Int32))] (fun t' k => XS.iloadN X0.here hx rfl (hb hby own_dt_74) rfl  k) ?_
            refine own_gs 76 [(.int ((((((x ^^^ (-1 : Int32)) &&& (x - (1 : Int32))).toUInt32 >>> ((8 : Int32) &&& 31).toUInt32).toInt32).toUInt32 >>> ((2 : Int32) &&& 31).toUInt32).toInt32)), (.int (11 : Int32))] (fun t' k => XS.iloadN X0.here hx rfl (hb hby own_dt_75) rfl  k) ?_
            refine own_gs 77 [(.int (1 : Int32)), (.int ((((((x ^^^ (-1 : Int32)) &&& (x - (1 : Int32))).toUInt32 >>> ((8 : Int32) &&& 31).toUInt32).toInt32).toUInt32 >>> ((2 : Int32) &&& 31).toUInt32).toInt32)), (.int (11 : Int32))] (fun t' k => XS.iconst X0.here hx rfl (hb hby own_dt_76) k) ?_
            refine own_gs 78 [(.int ((((((((x ^^^ (-1 : Int32)) &&& (x - (1 : Int32))).toUInt32 >>> ((8 : Int32) &&& 31).toUInt32).toInt32).toUInt32 >>> ((2 : Int32) &&& 31).toUInt32).toInt32).toUInt32 >>> ((1 : Int32) &&& 31).toUInt32).toInt32)), (.int (11 : Int32))] (fun t' k => XS.iushr X0.here hx rfl (hb hby own_dt_77) rfl k) ?_
            refine own_gs 79 [(.int ((11 : Int32) + ((((((((x ^^^ (-1 : Int32)) &&& (x - (1 : Int32))).toUInt32 >>> ((8 : Int32) &&& 31).toUInt32).toInt32).toUInt32 >>> ((2 : Int32) &&& 31).toUInt32).toInt32).toUInt32 >>> ((1 : Int32) &&& 31).toUInt32).toInt32)))] (fun t' k => XS.iadd X0.here hx rfl (hb hby own_dt_78) rfl k) ?_
            refine own_retI X0 hx hlk hret (hb hby own_dt_79) ?_ (by decide) (by decide)
            exact ⟨congrArg (fun z => some (Value.int z)) ((show (own_ntz x) = ((11 : Int32) + ((((((((x ^^^ (-1 : Int32)) &&& (x - (1 : Int32))).toUInt32 >>> ((8 : Int32) &&& 31).toUInt32).toInt32).toUInt32 >>> ((2 : Int32) &&& 31).toUInt32).toInt32).toUInt32 >>> ((1 : Int32) &&& 31).toUInt32).toInt32)) from ((if_pos hc9).trans ((if_neg hc23).trans ((if_pos hc38).trans ((if_neg hc52).trans ((if_pos hc64).trans rfl)))))).trans (by rfl : ((11 : Int32) + ((((((((x ^^^ (-1 : Int32)) &&& (x - (1 : Int32))).toUInt32 >>> ((8 : Int32) &&& 31).toUInt32).toInt32).toUInt32 >>> ((2 : Int32) &&& 31).toUInt32).toInt32).toUInt32 >>> ((1 : Int32) &&& 31).toUInt32).toInt32)) = ((11 : Int32) + ((((((((x ^^^ (-1 : Int32)) &&& (x - (1 : Int32))).toUInt32 >>> ((8 : Int32) &&& 31).toUInt32).toInt32).toUInt32 >>> ((2 : Int32) &&& 31).toUInt32).toInt32).toUInt32 >>> ((1 : Int32) &&& 31).toUInt32).toInt32)))).symm, e0, rfl⟩
          · skip
            refine own_gs 74 [] (fun t' k => XS.icmpYes X0.here hx rfl (pc0 := 64) (pc' := 74) rfl (hb hby own_dt_64) rfl (flt hc64).2.2.2 (by decide) (by decide) k) ?_
            refine own_gs 75 [(.int (9 : Int32))] (fun t' k => XS.iloadN X0.here hx rfl (hb hby own_dt_74) rfl  k) ?_
            refine own_gs 76 [(.int ((((x ^^^ (-1 : Int32)) &&& (x - (1 : Int32))).toUInt32 >>> ((8 : Int32) &&& 31).toUInt32).toInt32)), (.int (9 : Int32))] (fun t' k => XS.iloadN X0.here hx rfl (hb hby own_dt_75) rfl  k) ?_
            refine own_gs 77 [(.int (1 : Int32)), (.int ((((x ^^^ (-1 : Int32)) &&& (x - (1 : Int32))).toUInt32 >>> ((8 : Int32) &&& 31).toUInt32).toInt32)), (.int (9 : Int32))] (fun t' k => XS.iconst X0.here hx rfl (hb hby own_dt_76) k) ?_
            refine own_gs 78 [(.int ((((((x ^^^ (-1 : Int32)) &&& (x - (1 : Int32))).toUInt32 >>> ((8 : Int32) &&& 31).toUInt32).toInt32).toUInt32 >>> ((1 : Int32) &&& 31).toUInt32).toInt32)), (.int (9 : Int32))] (fun t' k => XS.iushr X0.here hx rfl (hb hby own_dt_77) rfl k) ?_
            refine own_gs 79 [(.int ((9 : Int32) + ((((((x ^^^ (-1 : Int32)) &&& (x - (1 : Int32))).toUInt32 >>> ((8 : Int32) &&& 31).toUInt32).toInt32).toUInt32 >>> ((1 : Int32) &&& 31).toUInt32).toInt32)))] (fun t' k => XS.iadd X0.here hx rfl (hb hby own_dt_78) rfl k) ?_
            refine own_retI X0 hx hlk hret (hb hby own_dt_79) ?_ (by decide) (by decide)
            exact ⟨congrArg (fun z => some (Value.int z)) ((show (own_ntz x) = ((9 : Int32) + ((((((x ^^^ (-1 : Int32)) &&& (x - (1 : Int32))).toUInt32 >>> ((8 : Int32) &&& 31).toUInt32).toInt32).toUInt32 >>> ((1 : Int32) &&& 31).toUInt32).toInt32)) from ((if_pos hc9).trans ((if_neg hc23).trans ((if_pos hc38).trans ((if_neg hc52).trans ((if_neg hc64).trans rfl)))))).trans (by rfl : ((9 : Int32) + ((((((x ^^^ (-1 : Int32)) &&& (x - (1 : Int32))).toUInt32 >>> ((8 : Int32) &&& 31).toUInt32).toInt32).toUInt32 >>> ((1 : Int32) &&& 31).toUInt32).toInt32)) = ((9 : Int32) + ((((((x ^^^ (-1 : Int32)) &&& (x - (1 : Int32))).toUInt32 >>> ((8 : Int32) &&& 31).toUInt32).toInt32).toUInt32 >>> ((1 : Int32) &&& 31).toUInt32).toInt32)))).symm, e0, rfl⟩
      · skip
        refine own_gs 49 [] (fun t' k => XS.icmpYes X0.here hx rfl (pc0 := 38) (pc' := 49) rfl (hb hby own_dt_38) rfl (flt hc38).2.2.2 (by decide) (by decide) k) ?_
        refine own_gs 50 [(.int ((x ^^^ (-1 : Int32)) &&& (x - (1 : Int32))))] (fun t' k => XS.iloadN X0.here hx rfl (hb hby own_dt_49) rfl  k) ?_
        refine own_gs 52 [(.int (16 : Int32)), (.int ((x ^^^ (-1 : Int32)) &&& (x - (1 : Int32))))] (fun t' k => XS.bipush X0.here hx rfl (hb hby own_dt_50) k) ?_
        by_cases hc52 : (16 : Int32) < ((x ^^^ (-1 : Int32)) &&& (x - (1 : Int32)))
        · skip
          refine own_gs 55 [] (fun t' k => XS.icmpNo X0.here hx rfl (hb hby own_dt_52) rfl (tlt hc52).2.2.2 k) ?_
          refine own_go (mkF m 58 #[iv ((x ^^^ (-1 : Int32)) &&& (x - (1 : Int32))), iv (5 : Int32)] []) (fun t' k => XS.iinc X0.here hx rfl (hb hby own_dt_55) rfl rfl k) ?_
          refine own_gs 59 [(.int ((x ^^^ (-1 : Int32)) &&& (x - (1 : Int32))))] (fun t' k => XS.iloadN X0.here hx rfl (hb hby own_dt_58) rfl  k) ?_
          refine own_gs 60 [(.int (4 : Int32)), (.int ((x ^^^ (-1 : Int32)) &&& (x - (1 : Int32))))] (fun t' k => XS.iconst X0.here hx rfl (hb hby own_dt_59) k) ?_
          refine own_gs 61 [(.int ((((x ^^^ (-1 : Int32)) &&& (x - (1 : Int32))).toUInt32 >>> ((4 : Int32) &&& 31).toUInt32).toInt32))] (fun t' k => XS.iushr X0.here hx rfl (hb hby own_dt_60) rfl k) ?_
          refine own_go (mkF m 62 #[iv ((((x ^^^ (-1 : Int32)) &&& (x - (1 : Int32))).toUInt32 >>> ((4 : Int32) &&& 31).toUInt32).toInt32), iv (5 : Int32)] []) (fun t' k => XS.istoreN X0.here hx rfl (hb hby own_dt_61) rfl rfl k) ?_
          refine own_gs 63 [(.int ((((x ^^^ (-1 : Int32)) &&& (x - (1 : Int32))).toUInt32 >>> ((4 : Int32) &&& 31).toUInt32).toInt32))] (fun t' k => XS.iloadN X0.here hx rfl (hb hby own_dt_62) rfl  k) ?_
          refine own_gs 64 [(.int (4 : Int32)), (.int ((((x ^^^ (-1 : Int32)) &&& (x - (1 : Int32))).toUInt32 >>> ((4 : Int32) &&& 31).toUInt32).toInt32))] (fun t' k => XS.iconst X0.here hx rfl (hb hby own_dt_63) k) ?_
          by_cases hc64 : (4 : Int32) < ((((x ^^^ (-1 : Int32)) &&& (x - (1 : Int32))).toUInt32 >>> ((4 : Int32) &&& 31).toUInt32).toInt32)
          · skip
            refine own_gs 67 [] (fun t' k => XS.icmpNo X0.here hx rfl (hb hby own_dt_64) rfl (tlt hc64).2.2.2 k) ?_
            refine own_go (mkF m 70 #[iv ((((x ^^^ (-1 : Int32)) &&& (x - (1 : Int32))).toUInt32 >>> ((4 : Int32) &&& 31).toUInt32).toInt32), iv (7 : Int32)] []) (fun t' k => XS.iinc X0.here hx rfl (hb hby own_dt_67) rfl rfl k) ?_
            refine own_gs 71 [(.int ((((x ^^^ (-1 : Int32)) &&& (x - (1 : Int32))).toUInt32 >>> ((4 : Int32) &&& 31).toUInt32).toInt32))] (fun t' k => XS.iloadN X0.here hx rfl (hb hby own_dt_70) rfl  k) ?_
            refine own_gs 72 [(.int (2 : Int32)), (.int ((((x ^^^ (-1 : Int32)) &&& (x - (1 : Int32))).toUInt32 >>> ((4 : Int32) &&& 31).toUInt32).toInt32))] (fun t' k => XS.iconst X0.here hx rfl (hb hby own_dt_71) k) ?_
            refine own_gs 73 [(.int ((((((x ^^^ (-1 : Int32)) &&& (x - (1 : Int32))).toUInt32 >>> ((4 : Int32) &&& 31).toUInt32).toInt32).toUInt32 >>> ((2 : Int32) &&& 31).toUInt32).toInt32))] (fun t' k => XS.iushr X0.here hx rfl (hb hby own_dt_72) rfl k) ?_
            refine own_go (mkF m 74 #[iv ((((((x ^^^ (-1 : Int32)) &&& (x - (1 : Int32))).toUInt32 >>> ((4 : Int32) &&& 31).toUInt32).toInt32).toUInt32 >>> ((2 : Int32) &&& 31).toUInt32).toInt32), iv (7 : Int32)] []) (fun t' k => XS.istoreN X0.here hx rfl (hb hby own_dt_73) rfl rfl k) ?_
            refine own_gs 75 [(.int (7 : Int32))] (fun t' k => XS.iloadN X0.here hx rfl (hb hby own_dt_74) rfl  k) ?_
            refine own_gs 76 [(.int ((((((x ^^^ (-1 : Int32)) &&& (x - (1 : Int32))).toUInt32 >>> ((4 : Int32) &&& 31).toUInt32).toInt32).toUInt32 >>> ((2 : Int32) &&& 31).toUInt32).toInt32)), (.int (7 : Int32))] (fun t' k => XS.iloadN X0.here hx rfl (hb hby own_dt_75) rfl  k) ?_
            refine own_gs 77 [(.int (1 : Int32)), (.int ((((((x ^^^ (-1 : Int32)) &&& (x - (1 : Int32))).toUInt32 >>> ((4 : Int32) &&& 31).toUInt32).toInt32).toUInt32 >>> ((2 : Int32) &&& 31).toUInt32).toInt32)), (.int (7 : Int32))] (fun t' k => XS.iconst X0.here hx rfl (hb hby own_dt_76) k) ?_
            refine own_gs 78 [(.int ((((((((x ^^^ (-1 : Int32)) &&& (x - (1 : Int32))).toUInt32 >>> ((4 : Int32) &&& 31).toUInt32).toInt32).toUInt32 >>> ((2 : Int32) &&& 31).toUInt32).toInt32).toUInt32 >>> ((1 : Int32) &&& 31).toUInt32).toInt32)), (.int (7 : Int32))] (fun t' k => XS.iushr X0.here hx rfl (hb hby own_dt_77) rfl k) ?_
            refine own_gs 79 [(.int ((7 : Int32) + ((((((((x ^^^ (-1 : Int32)) &&& (x - (1 : Int32))).toUInt32 >>> ((4 : Int32) &&& 31).toUInt32).toInt32).toUInt32 >>> ((2 : Int32) &&& 31).toUInt32).toInt32).toUInt32 >>> ((1 : Int32) &&& 31).toUInt32).toInt32)))] (fun t' k => XS.iadd X0.here hx rfl (hb hby own_dt_78) rfl k) ?_
            refine own_retI X0 hx hlk hret (hb hby own_dt_79) ?_ (by decide) (by decide)
            exact ⟨congrArg (fun z => some (Value.int z)) ((show (own_ntz x) = ((7 : Int32) + ((((((((x ^^^ (-1 : Int32)) &&& (x - (1 : Int32))).toUInt32 >>> ((4 : Int32) &&& 31).toUInt32).toInt32).toUInt32 >>> ((2 : Int32) &&& 31).toUInt32).toInt32).toUInt32 >>> ((1 : Int32) &&& 31).toUInt32).toInt32)) from ((if_pos hc9).trans ((if_neg hc23).trans ((if_neg hc38).trans ((if_pos hc52).trans ((if_pos hc64).trans rfl)))))).trans (by rfl : ((7 : Int32) + ((((((((x ^^^ (-1 : Int32)) &&& (x - (1 : Int32))).toUInt32 >>> ((4 : Int32) &&& 31).toUInt32).toInt32).toUInt32 >>> ((2 : Int32) &&& 31).toUInt32).toInt32).toUInt32 >>> ((1 : Int32) &&& 31).toUInt32).toInt32)) = ((7 : Int32) + ((((((((x ^^^ (-1 : Int32)) &&& (x - (1 : Int32))).toUInt32 >>> ((4 : Int32) &&& 31).toUInt32).toInt32).toUInt32 >>> ((2 : Int32) &&& 31).toUInt32).toInt32).toUInt32 >>> ((1 : Int32) &&& 31).toUInt32).toInt32)))).symm, e0, rfl⟩
          · skip
            refine own_gs 74 [] (fun t' k => XS.icmpYes X0.here hx rfl (pc0 := 64) (pc' := 74) rfl (hb hby own_dt_64) rfl (flt hc64).2.2.2 (by decide) (by decide) k) ?_
            refine own_gs 75 [(.int (5 : Int32))] (fun t' k => XS.iloadN X0.here hx rfl (hb hby own_dt_74) rfl  k) ?_
            refine own_gs 76 [(.int ((((x ^^^ (-1 : Int32)) &&& (x - (1 : Int32))).toUInt32 >>> ((4 : Int32) &&& 31).toUInt32).toInt32)), (.int (5 : Int32))] (fun t' k => XS.iloadN X0.here hx rfl (hb hby own_dt_75) rfl  k) ?_
            refine own_gs 77 [(.int (1 : Int32)), (.int ((((x ^^^ (-1 : Int32)) &&& (x - (1 : Int32))).toUInt32 >>> ((4 : Int32) &&& 31).toUInt32).toInt32)), (.int (5 : Int32))] (fun t' k => XS.iconst X0.here hx rfl (hb hby own_dt_76) k) ?_
            refine own_gs 78 [(.int ((((((x ^^^ (-1 : Int32)) &&& (x - (1 : Int32))).toUInt32 >>> ((4 : Int32) &&& 31).toUInt32).toInt32).toUInt32 >>> ((1 : Int32) &&& 31).toUInt32).toInt32)), (.int (5 : Int32))] (fun t' k => XS.iushr X0.here hx rfl (hb hby own_dt_77) rfl k) ?_
            refine own_gs 79 [(.int ((5 : Int32) + ((((((x ^^^ (-1 : Int32)) &&& (x - (1 : Int32))).toUInt32 >>> ((4 : Int32) &&& 31).toUInt32).toInt32).toUInt32 >>> ((1 : Int32) &&& 31).toUInt32).toInt32)))] (fun t' k => XS.iadd X0.here hx rfl (hb hby own_dt_78) rfl k) ?_
            refine own_retI X0 hx hlk hret (hb hby own_dt_79) ?_ (by decide) (by decide)
            exact ⟨congrArg (fun z => some (Value.int z)) ((show (own_ntz x) = ((5 : Int32) + ((((((x ^^^ (-1 : Int32)) &&& (x - (1 : Int32))).toUInt32 >>> ((4 : Int32) &&& 31).toUInt32).toInt32).toUInt32 >>> ((1 : Int32) &&& 31).toUInt32).toInt32)) from ((if_pos hc9).trans ((if_neg hc23).trans ((if_neg hc38).trans ((if_pos hc52).trans ((if_neg hc64).trans rfl)))))).trans (by rfl : ((5 : Int32) + ((((((x ^^^ (-1 : Int32)) &&& (x - (1 : Int32))).toUInt32 >>> ((4 : Int32) &&& 31).toUInt32).toInt32).toUInt32 >>> ((1 : Int32) &&& 31).toUInt32).toInt32)) = ((5 : Int32) + ((((((x ^^^ (-1 : Int32)) &&& (x - (1 : Int32))).toUInt32 >>> ((4 : Int32) &&& 31).toUInt32).toInt32).toUInt32 >>> ((1 : Int32) &&& 31).toUInt32).toInt32)))).symm, e0, rfl⟩
        · skip
          refine own_gs 62 [] (fun t' k => XS.icmpYes X0.here hx rfl (pc0 := 52) (pc' := 62) rfl (hb hby own_dt_52) rfl (flt hc52).2.2.2 (by decide) (by decide) k) ?_
          refine own_gs 63 [(.int ((x ^^^ (-1 : Int32)) &&& (x - (1 : Int32))))] (fun t' k => XS.iloadN X0.here hx rfl (hb hby own_dt_62) rfl  k) ?_
          refine own_gs 64 [(.int (4 : Int32)), (.int ((x ^^^ (-1 : Int32)) &&& (x - (1 : Int32))))] (fun t' k => XS.iconst X0.here hx rfl (hb hby own_dt_63) k) ?_
          by_cases hc64 : (4 : Int32) < ((x ^^^ (-1 : Int32)) &&& (x - (1 : Int32)))
          · skip
            refine own_gs 67 [] (fun t' k => XS.icmpNo X0.here hx rfl (hb hby own_dt_64) rfl (tlt hc64).2.2.2 k) ?_
            refine own_go (mkF m 70 #[iv ((x ^^^ (-1 : Int32)) &&& (x - (1 : Int32))), iv (3 : Int32)] []) (fun t' k => XS.iinc X0.here hx rfl (hb hby own_dt_67) rfl rfl k) ?_
            refine own_gs 71 [(.int ((x ^^^ (-1 : Int32)) &&& (x - (1 : Int32))))] (fun t' k => XS.iloadN X0.here hx rfl (hb hby own_dt_70) rfl  k) ?_
            refine own_gs 72 [(.int (2 : Int32)), (.int ((x ^^^ (-1 : Int32)) &&& (x - (1 : Int32))))] (fun t' k => XS.iconst X0.here hx rfl (hb hby own_dt_71) k) ?_
            refine own_gs 73 [(.int ((((x ^^^ (-1 : Int32)) &&& (x - (1 : Int32))).toUInt32 >>> ((2 : Int32) &&& 31).toUInt32).toInt32))] (fun t' k => XS.iushr X0.here hx rfl (hb hby own_dt_72) rfl k) ?_
            refine own_go (mkF m 74 #[iv ((((x ^^^ (-1 : Int32)) &&& (x - (1 : Int32))).toUInt32 >>> ((2 : Int32) &&& 31).toUInt32).toInt32), iv (3 : Int32)] []) (fun t' k => XS.istoreN X0.here hx rfl (hb hby own_dt_73) rfl rfl k) ?_
            refine own_gs 75 [(.int (3 : Int32))] (fun t' k => XS.iloadN X0.here hx rfl (hb hby own_dt_74) rfl  k) ?_
            refine own_gs 76 [(.int ((((x ^^^ (-1 : Int32)) &&& (x - (1 : Int32))).toUInt32 >>> ((2 : Int32) &&& 31).toUInt32).toInt32)), (.int (3 : Int32))] (fun t' k => XS.iloadN X0.here hx rfl (hb hby own_dt_75) rfl  k) ?_
            refine own_gs 77 [(.int (1 : Int32)), (.int ((((x ^^^ (-1 : Int32)) &&& (x - (1 : Int32))).toUInt32 >>> ((2 : Int32) &&& 31).toUInt32).toInt32)), (.int (3 : Int32))] (fun t' k => XS.iconst X0.here hx rfl (hb hby own_dt_76) k) ?_
            refine own_gs 78 [(.int ((((((x ^^^ (-1 : Int32)) &&& (x - (1 : Int32))).toUInt32 >>> ((2 : Int32) &&& 31).toUInt32).toInt32).toUInt32 >>> ((1 : Int32) &&& 31).toUInt32).toInt32)), (.int (3 : Int32))] (fun t' k => XS.iushr X0.here hx rfl (hb hby own_dt_77) rfl k) ?_
            refine own_gs 79 [(.int ((3 : Int32) + ((((((x ^^^ (-1 : Int32)) &&& (x - (1 : Int32))).toUInt32 >>> ((2 : Int32) &&& 31).toUInt32).toInt32).toUInt32 >>> ((1 : Int32) &&& 31).toUInt32).toInt32)))] (fun t' k => XS.iadd X0.here hx rfl (hb hby own_dt_78) rfl k) ?_
            refine own_retI X0 hx hlk hret (hb hby own_dt_79) ?_ (by decide) (by decide)
            exact ⟨congrArg (fun z => some (Value.int z)) ((show (own_ntz x) = ((3 : Int32) + ((((((x ^^^ (-1 : Int32)) &&& (x - (1 : Int32))).toUInt32 >>> ((2 : Int32) &&& 31).toUInt32).toInt32).toUInt32 >>> ((1 : Int32) &&& 31).toUInt32).toInt32)) from ((if_pos hc9).trans ((if_neg hc23).trans ((if_neg hc38).trans ((if_neg hc52).trans ((if_pos hc64).trans rfl)))))).trans (by rfl : ((3 : Int32) + ((((((x ^^^ (-1 : Int32)) &&& (x - (1 : Int32))).toUInt32 >>> ((2 : Int32) &&& 31).toUInt32).toInt32).toUInt32 >>> ((1 : Int32) &&& 31).toUInt32).toInt32)) = ((3 : Int32) + ((((((x ^^^ (-1 : Int32)) &&& (x - (1 : Int32))).toUInt32 >>> ((2 : Int32) &&& 31).toUInt32).toInt32).toUInt32 >>> ((1 : Int32) &&& 31).toUInt32).toInt32)))).symm, e0, rfl⟩
          · skip
            refine own_gs 74 [] (fun t' k => XS.icmpYes X0.here hx rfl (pc0 := 64) (pc' := 74) rfl (hb hby own_dt_64) rfl (flt hc64).2.2.2 (by decide) (by decide) k) ?_
            refine own_gs 75 [(.int (1 : Int32))] (fun t' k => XS.iloadN X0.here hx rfl (hb hby own_dt_74) rfl  k) ?_
            refine own_gs 76 [(.int ((x ^^^ (-1 : Int32)) &&& (x - (1 : Int32)))), (.int (1 : Int32))] (fun t' k => XS.iloadN X0.here hx rfl (hb hby own_dt_75) rfl  k) ?_
            refine own_gs 77 [(.int (1 : Int32)), (.int ((x ^^^ (-1 : Int32)) &&& (x - (1 : Int32)))), (.int (1 : Int32))] (fun t' k => XS.iconst X0.here hx rfl (hb hby own_dt_76) k) ?_
            refine own_gs 78 [(.int ((((x ^^^ (-1 : Int32)) &&& (x - (1 : Int32))).toUInt32 >>> ((1 : Int32) &&& 31).toUInt32).toInt32)), (.int (1 : Int32))] (fun t' k => XS.iushr X0.here hx rfl (hb hby own_dt_77) rfl k) ?_
            refine own_gs 79 [(.int ((1 : Int32) + ((((x ^^^ (-1 : Int32)) &&& (x - (1 : Int32))).toUInt32 >>> ((1 : Int32) &&& 31).toUInt32).toInt32)))] (fun t' k => XS.iadd X0.here hx rfl (hb hby own_dt_78) rfl k) ?_
            refine own_retI X0 hx hlk hret (hb hby own_dt_79) ?_ (by decide) (by decide)
            exact ⟨congrArg (fun z => some (Value.int z)) ((show (own_ntz x) = ((1 : Int32) + ((((x ^^^ (-1 : Int32)) &&& (x - (1 : Int32))).toUInt32 >>> ((1 : Int32) &&& 31).toUInt32).toInt32)) from ((if_pos hc9).trans ((if_neg hc23).trans ((if_neg hc38).trans ((if_neg hc52).trans ((if_neg hc64).trans rfl)))))).trans (by rfl : ((1 : Int32) + ((((x ^^^ (-1 : Int32)) &&& (x - (1 : Int32))).toUInt32 >>> ((1 : Int32) &&& 31).toUInt32).toInt32)) = ((1 : Int32) + ((((x ^^^ (-1 : Int32)) &&& (x - (1 : Int32))).toUInt32 >>> ((1 : Int32) &&& 31).toUInt32).toInt32)))).symm, e0, rfl⟩
  · skip
    refine own_gs 12 [] (fun t' k => XS.ifNo X0.here hx rfl (hb hby own_dt_9) rfl ((if0 _ _).trans (flt hc9).2.2.1) k) ?_
    refine own_gs 13 [(.int ((x ^^^ (-1 : Int32)) &&& (x - (1 : Int32))))] (fun t' k => XS.iloadN X0.here hx rfl (hb hby own_dt_12) rfl  k) ?_
    refine own_gs 15 [(.int (32 : Int32)), (.int ((x ^^^ (-1 : Int32)) &&& (x - (1 : Int32))))] (fun t' k => XS.bipush X0.here hx rfl (hb hby own_dt_13) k) ?_
    refine own_gs 16 [(.int (((x ^^^ (-1 : Int32)) &&& (x - (1 : Int32))) &&& (32 : Int32)))] (fun t' k => XS.iand X0.here hx rfl (hb hby own_dt_15) rfl k) ?_
    refine own_retI X0 hx hlk hret (hb hby own_dt_16) ?_ (by decide) (by decide)
    exact ⟨congrArg (fun z => some (Value.int z)) ((show (own_ntz x) = (((x ^^^ (-1 : Int32)) &&& (x - (1 : Int32))) &&& (32 : Int32)) from ((if_neg hc9).trans rfl)).trans (by rfl : (((x ^^^ (-1 : Int32)) &&& (x - (1 : Int32))) &&& (32 : Int32)) = (((x ^^^ (-1 : Int32)) &&& (x - (1 : Int32))) &&& (32 : Int32)))).symm, e0, rfl⟩

def own_max (x : Int64) (y : Int64) : Int64 := (if x < y then y else x)
theorem own_dm_0 : decode jdk_29_method_66_code 0 = .ok (.lload_n 0, 1) := by decide +kernel
theorem own_dm_1 : decode jdk_29_method_66_code 1 = .ok (.lload_n 2, 1) := by decide +kernel
theorem own_dm_2 : decode jdk_29_method_66_code 2 = .ok (.lcmp, 1) := by decide +kernel
theorem own_dm_3 : decode jdk_29_method_66_code 3 = .ok (.ifCond .lt 7, 3) := by decide +kernel
theorem own_dm_6 : decode jdk_29_method_66_code 6 = .ok (.lload_n 0, 1) := by decide +kernel
theorem own_dm_7 : decode jdk_29_method_66_code 7 = .ok (.goto 4, 3) := by decide +kernel
theorem own_dm_10 : decode jdk_29_method_66_code 10 = .ok (.lload_n 2, 1) := by decide +kernel
theorem own_dm_11 : decode jdk_29_method_66_code 11 = .ok (.lreturn, 1) := by decide +kernel
theorem own_pn_own_maxC : plainFor (⟨"java/lang/Math", "max", "(JJ)J"⟩ : MethodName) = true := by first | decide +kernel | exact Jvm.Free.JP.mathPlain rfl (by decide +kernel)
set_option maxRecDepth 65536 in
set_option maxHeartbeats 40000000 in
theorem own_maxC (l : Launch) (Z : State) (a0 : Array Value) (hw : ∀ d ∈ tables_1, d.before a0 Z = true) (ws : List Jvm.Cond) (h0 : Heap) (x y : Int64)  :
    own_C l Z (⟨"java/lang/Math", "max", "(JJ)J"⟩ : MethodName) jdk_29_method_66_code 4 (some .long) ws ({ frames := 0, cells := 0, slots := 0, locals := 0 } : Room) #[(.long x), (.long y)] h0 (own_P (.long (own_max x y)) h0) := by
  refine own_met own_pn_own_maxC #[jv x, .second, jv y, .second] (fun m => by first | (simp [entryFrame, mkF, argsToLocals, Value.category]; done) | rfl) ?_
  intro p e s m below meth c s₁ hx hby hml hown hret hlk hZ hnm X0 e0
  refine own_gs 1 [(.long x)] (fun t' k => XS.lloadN X0.here hx rfl (hb hby own_dm_0) rfl  k) ?_
  refine own_gs 2 [(.long y), (.long x)] (fun t' k => XS.lloadN X0.here hx rfl (hb hby own_dm_1) rfl  k) ?_
  refine own_gs 3 [(.int (lcmpW x y))] (fun t' k => XS.lcmp X0.here hx rfl (hb hby own_dm_2) rfl k) ?_
  by_cases hc3 : x < y
  · skip
    refine own_gs 10 [] (fun t' k => XS.ifYes X0.here hx rfl (pc0 := 3) (pc' := 10) rfl (hb hby own_dm_3) rfl ((if0 _ _).trans (tlt ((lw_lt x y).mpr hc3)).1) (by decide) (by decide) k) ?_
    refine own_gs 11 [(.long y)] (fun t' k => XS.lloadN X0.here hx rfl (hb hby own_dm_10) rfl  k) ?_
    refine own_retJ X0 hx hlk hret (hb hby own_dm_11) ?_ (by decide) (by decide)
    exact ⟨congrArg (fun z => some (Value.long z)) ((show (own_max x y) = y from ((if_pos hc3).trans rfl)).trans (by rfl : y = y)).symm, e0, rfl⟩
  · skip
    refine own_gs 6 [] (fun t' k => XS.ifNo X0.here hx rfl (hb hby own_dm_3) rfl ((if0 _ _).trans (flt (fun q' => hc3 ((lw_lt x y).mp q'))).1) k) ?_
    refine own_gs 7 [(.long x)] (fun t' k => XS.lloadN X0.here hx rfl (hb hby own_dm_6) rfl  k) ?_
    refine own_gs 11 [(.long x)] (fun t' k => XS.goto X0.here hx rfl (pc0 := 7) (pc' := 11) rfl (hb hby own_dm_7) (by decide) (by decide) k) ?_
    refine own_retJ X0 hx hlk hret (hb hby own_dm_11) ?_ (by decide) (by decide)
    exact ⟨congrArg (fun z => some (Value.long z)) ((show (own_max x y) = x from ((if_neg hc3).trans rfl)).trans (by rfl : x = x)).symm, e0, rfl⟩

def own_ex (x : Int32) : Int32 := (if (1 : Int32) < x then (if (2 : Int32) < x then (if (4 : Int32) < x then (if (8 : Int32) < x then (16 : Int32) else (8 : Int32)) else (4 : Int32)) else (2 : Int32)) else (1 : Int32))
theorem own_de_0 : decode method_3_code 0 = .ok (.iload_n 0, 1) := by decide +kernel
theorem own_de_1 : decode method_3_code 1 = .ok (.iconst 1, 1) := by decide +kernel
theorem own_de_2 : decode method_3_code 2 = .ok (.if_icmp .gt 5, 3) := by decide +kernel
theorem own_de_5 : decode method_3_code 5 = .ok (.iconst 1, 1) := by decide +kernel
theorem own_de_6 : decode method_3_code 6 = .ok (.ireturn, 1) := by decide +kernel
theorem own_de_7 : decode method_3_code 7 = .ok (.iload_n 0, 1) := by decide +kernel
theorem own_de_8 : decode method_3_code 8 = .ok (.iconst 2, 1) := by decide +kernel
theorem own_de_9 : decode method_3_code 9 = .ok (.if_icmp .gt 5, 3) := by decide +kernel
theorem own_de_12 : decode method_3_code 12 = .ok (.iconst 2, 1) := by decide +kernel
theorem own_de_13 : decode method_3_code 13 = .ok (.ireturn, 1) := by decide +kernel
theorem own_de_14 : decode method_3_code 14 = .ok (.iload_n 0, 1) := by decide +kernel
theorem own_de_15 : decode method_3_code 15 = .ok (.iconst 4, 1) := by decide +kernel
theorem own_de_16 : decode method_3_code 16 = .ok (.if_icmp .gt 5, 3) := by decide +kernel
theorem own_de_19 : decode method_3_code 19 = .ok (.iconst 4, 1) := by decide +kernel
theorem own_de_20 : decode method_3_code 20 = .ok (.ireturn, 1) := by decide +kernel
theorem own_de_21 : decode method_3_code 21 = .ok (.iload_n 0, 1) := by decide +kernel
theorem own_de_22 : decode method_3_code 22 = .ok (.bipush 8, 2) := by decide +kernel
theorem own_de_24 : decode method_3_code 24 = .ok (.if_icmp .gt 6, 3) := by decide +kernel
theorem own_de_27 : decode method_3_code 27 = .ok (.bipush 8, 2) := by decide +kernel
theorem own_de_29 : decode method_3_code 29 = .ok (.ireturn, 1) := by decide +kernel
theorem own_de_30 : decode method_3_code 30 = .ok (.bipush 16, 2) := by decide +kernel
theorem own_de_32 : decode method_3_code 32 = .ok (.ireturn, 1) := by decide +kernel
theorem own_pn_own_exC : plainFor (⟨"com/example/load_across_peers/loadacrosspeers/internal/pick/AliasTableColumnsPinLaw", "expected", "(I)I"⟩ : MethodName) = true := plainFor_of_name (show plainName "com/example/load_across_peers/loadacrosspeers/internal/pick/AliasTableColumnsPinLaw" = true by first | (simp [plainName, overriddenIn]; done) | decide +kernel)
set_option maxRecDepth 65536 in
set_option maxHeartbeats 40000000 in
theorem own_exC (l : Launch) (Z : State) (a0 : Array Value) (hw : ∀ d ∈ tables_1, d.before a0 Z = true) (ws : List Jvm.Cond) (h0 : Heap) (x : Int32)  :
    own_C l Z (⟨"com/example/load_across_peers/loadacrosspeers/internal/pick/AliasTableColumnsPinLaw", "expected", "(I)I"⟩ : MethodName) method_3_code 1 (some .int) ws ({ frames := 0, cells := 0, slots := 0, locals := 0 } : Room) #[(.int x)] h0 (own_P (.int (own_ex x)) h0) := by
  refine own_met own_pn_own_exC #[iv x] (fun m => by first | (simp [entryFrame, mkF, argsToLocals, Value.category]; done) | rfl) ?_
  intro p e s m below meth c s₁ hx hby hml hown hret hlk hZ hnm X0 e0
  refine own_gs 1 [(.int x)] (fun t' k => XS.iloadN X0.here hx rfl (hb hby own_de_0) rfl  k) ?_
  refine own_gs 2 [(.int (1 : Int32)), (.int x)] (fun t' k => XS.iconst X0.here hx rfl (hb hby own_de_1) k) ?_
  by_cases hc2 : (1 : Int32) < x
  · skip
    refine own_gs 7 [] (fun t' k => XS.icmpYes X0.here hx rfl (pc0 := 2) (pc' := 7) rfl (hb hby own_de_2) rfl (tlt hc2).2.2.1 (by decide) (by decide) k) ?_
    refine own_gs 8 [(.int x)] (fun t' k => XS.iloadN X0.here hx rfl (hb hby own_de_7) rfl  k) ?_
    refine own_gs 9 [(.int (2 : Int32)), (.int x)] (fun t' k => XS.iconst X0.here hx rfl (hb hby own_de_8) k) ?_
    by_cases hc9 : (2 : Int32) < x
    · skip
      refine own_gs 14 [] (fun t' k => XS.icmpYes X0.here hx rfl (pc0 := 9) (pc' := 14) rfl (hb hby own_de_9) rfl (tlt hc9).2.2.1 (by decide) (by decide) k) ?_
      refine own_gs 15 [(.int x)] (fun t' k => XS.iloadN X0.here hx rfl (hb hby own_de_14) rfl  k) ?_
      refine own_gs 16 [(.int (4 : Int32)), (.int x)] (fun t' k => XS.iconst X0.here hx rfl (hb hby own_de_15) k) ?_
      by_cases hc16 : (4 : Int32) < x
      · skip
        refine own_gs 21 [] (fun t' k => XS.icmpYes X0.here hx rfl (pc0 := 16) (pc' := 21) rfl (hb hby own_de_16) rfl (tlt hc16).2.2.1 (by decide) (by decide) k) ?_
        refine own_gs 22 [(.int x)] (fun t' k => XS.iloadN X0.here hx rfl (hb hby own_de_21) rfl  k) ?_
        refine own_gs 24 [(.int (8 : Int32)), (.int x)] (fun t' k => XS.bipush X0.here hx rfl (hb hby own_de_22) k) ?_
        by_cases hc24 : (8 : Int32) < x
        · skip
          refine own_gs 30 [] (fun t' k => XS.icmpYes X0.here hx rfl (pc0 := 24) (pc' := 30) rfl (hb hby own_de_24) rfl (tlt hc24).2.2.1 (by decide) (by decide) k) ?_
          refine own_gs 32 [(.int (16 : Int32))] (fun t' k => XS.bipush X0.here hx rfl (hb hby own_de_30) k) ?_
          refine own_retI X0 hx hlk hret (hb hby own_de_32) ?_ (by decide) (by decide)
          exact ⟨congrArg (fun z => some (Value.int z)) ((show (own_ex x) = (16 : Int32) from ((if_pos hc2).trans ((if_pos hc9).trans ((if_pos hc16).trans ((if_pos hc24).trans rfl))))).trans (by rfl : (16 : Int32) = (16 : Int32))).symm, e0, rfl⟩
        · skip
          refine own_gs 27 [] (fun t' k => XS.icmpNo X0.here hx rfl (hb hby own_de_24) rfl (flt hc24).2.2.1 k) ?_
          refine own_gs 29 [(.int (8 : Int32))] (fun t' k => XS.bipush X0.here hx rfl (hb hby own_de_27) k) ?_
          refine own_retI X0 hx hlk hret (hb hby own_de_29) ?_ (by decide) (by decide)
          exact ⟨congrArg (fun z => some (Value.int z)) ((show (own_ex x) = (8 : Int32) from ((if_pos hc2).trans ((if_pos hc9).trans ((if_pos hc16).trans ((if_neg hc24).trans rfl))))).trans (by rfl : (8 : Int32) = (8 : Int32))).symm, e0, rfl⟩
      · skip
        refine own_gs 19 [] (fun t' k => XS.icmpNo X0.here hx rfl (hb hby own_de_16) rfl (flt hc16).2.2.1 k) ?_
        refine own_gs 20 [(.int (4 : Int32))] (fun t' k => XS.iconst X0.here hx rfl (hb hby own_de_19) k) ?_
        refine own_retI X0 hx hlk hret (hb hby own_de_20) ?_ (by decide) (by decide)
        exact ⟨congrArg (fun z => some (Value.int z)) ((show (own_ex x) = (4 : Int32) from ((if_pos hc2).trans ((if_pos hc9).trans ((if_neg hc16).trans rfl)))).trans (by rfl : (4 : Int32) = (4 : Int32))).symm, e0, rfl⟩
    · skip
      refine own_gs 12 [] (fun t' k => XS.icmpNo X0.here hx rfl (hb hby own_de_9) rfl (flt hc9).2.2.1 k) ?_
      refine own_gs 13 [(.int (2 : Int32))] (fun t' k => XS.iconst X0.here hx rfl (hb hby own_de_12) k) ?_
      refine own_retI X0 hx hlk hret (hb hby own_de_13) ?_ (by decide) (by decide)
      exact ⟨congrArg (fun z => some (Value.int z)) ((show (own_ex x) = (2 : Int32) from ((if_pos hc2).trans ((if_neg hc9).trans rfl))).trans (by rfl : (2 : Int32) = (2 : Int32))).symm, e0, rfl⟩
  · skip
    refine own_gs 5 [] (fun t' k => XS.icmpNo X0.here hx rfl (hb hby own_de_2) rfl (flt hc2).2.2.1 k) ?_
    refine own_gs 6 [(.int (1 : Int32))] (fun t' k => XS.iconst X0.here hx rfl (hb hby own_de_5) k) ?_
    refine own_retI X0 hx hlk hret (hb hby own_de_6) ?_ (by decide) (by decide)
    exact ⟨congrArg (fun z => some (Value.int z)) ((show (own_ex x) = (1 : Int32) from ((if_neg hc2).trans rfl)).trans (by rfl : (1 : Int32) = (1 : Int32))).symm, e0, rfl⟩


def own_colsf (x : Int32) : Int32 := if (1 : Int32) < x then ((own_hob (x - (1 : Int32))) <<< ((1 : Int32) &&& 31)) else (1 : Int32)
theorem own_colsA : ∀ i : Fin 9, (own_colsf (Int32.ofNat (i.val + 1))).toInt = ((own_colsf (Int32.ofNat (i.val + 1))).toInt.toNat : Int) ∧ 1 ≤ (own_colsf (Int32.ofNat (i.val + 1))).toInt.toNat ∧ (own_colsf (Int32.ofNat (i.val + 1))).toInt.toNat ≤ 16 ∧ i.val + 1 ≤ (own_colsf (Int32.ofNat (i.val + 1))).toInt.toNat ∧ Int32.ofNat (own_colsf (Int32.ofNat (i.val + 1))).toInt.toNat = own_ex (Int32.ofNat (i.val + 1)) := by decide +kernel
theorem own_colsB {x : Int32} {n : Nat} (h : x.toInt = n) (h1 : 1 ≤ n) (h9 : n ≤ 9) : ∃ cn : Nat, (own_colsf x).toInt = cn ∧ 1 ≤ cn ∧ cn ≤ 16 ∧ n ≤ cn ∧ Int32.ofNat cn = own_ex x := by
  have q : x = Int32.ofNat ((⟨n - 1, by omega⟩ : Fin 9).val + 1) := by
    rw [← Int32.toInt_inj, Int32.toInt_ofNat_of_lt (by show n - 1 + 1 < 2 ^ 31; omega), h]
    show (n : Int) = ((n - 1 + 1 : Nat) : Int)
    omega
  have r := own_colsA ⟨n - 1, by omega⟩
  rw [← q] at r
  have e : (⟨n - 1, by omega⟩ : Fin 9).val + 1 = n := by show n - 1 + 1 = n; omega
  have r4 := r.2.2.2.1
  exact ⟨_, r.1, r.2.1, r.2.2.1, by omega, r.2.2.2.2⟩
theorem own_rem32 (x y : Int32) : (x - (x / y) * y).toInt = x.toInt.tmod y.toInt := by
  have a := (x % y).toInt_lt; have b := (x % y).le_toInt
  rw [Int32.toInt_mod] at a b
  rw [Int32.toInt_sub, Int32.toInt_mul, Int32.toInt_div, Int.bmod_mul_bmod, Int.sub_bmod_bmod, Int.mul_comm, ← Int.tmod_def]
  exact Jvm.Kit.bmod32 b a
theorem own_nn (x : Int32) : ∃ n : Nat, ((1 : Int32) + ((x &&& (2147483647 : Int32)) - ((x &&& (2147483647 : Int32)) / (9 : Int32)) * (9 : Int32))).toInt = n ∧ 1 ≤ n ∧ n ≤ 9 := by
  have h1 := Jvm.Kit.i32_mask x 2147483647 (k := 31) (by decide) (by decide)
  have e9 : (9 : Int32).toInt = 9 := rfl
  have e1 : (1 : Int32).toInt = 1 := rfl
  have h2 := own_rem32 (x &&& (2147483647 : Int32)) 9
  rw [Int.tmod_eq_emod_of_nonneg (by omega), e9] at h2
  generalize ((x &&& (2147483647 : Int32)) - ((x &&& (2147483647 : Int32)) / (9 : Int32)) * (9 : Int32)) = r at *
  have h3 : ((1 : Int32) + r).toInt = 1 + r.toInt := by rw [Jvm.Kit.i32_add (by omega) (by omega), e1]
  exact ⟨(1 + r.toInt).toNat, by rw [h3]; omega, by omega, by omega⟩
theorem own_ofNat {x : Int32} {n : Nat} (h : x.toInt = n) : Int32.ofNat n = x := by
  have := x.toInt_lt
  rw [← Int32.toInt_inj, Int32.toInt_ofNat_of_lt (by omega), h]

theorem own_dW_0 : decode method_4_code 0 = .ok (.iload_n 0, 1) := by decide +kernel
theorem own_dW_1 : decode method_4_code 1 = .ok (.newarray .long, 2) := by decide +kernel
theorem own_dW_3 : decode method_4_code 3 = .ok (.astore 5, 2) := by decide +kernel
theorem own_dW_5 : decode method_4_code 5 = .ok (.aload 5, 2) := by decide +kernel
theorem own_dW_7 : decode method_4_code 7 = .ok (.iconst 0, 1) := by decide +kernel
theorem own_dW_8 : decode method_4_code 8 = .ok (.lload_n 1, 1) := by decide +kernel
theorem own_dW_9 : decode method_4_code 9 = .ok (.lastore, 1) := by decide +kernel
theorem own_dW_10 : decode method_4_code 10 = .ok (.iload_n 0, 1) := by decide +kernel
theorem own_dW_11 : decode method_4_code 11 = .ok (.iconst 1, 1) := by decide +kernel
theorem own_dW_12 : decode method_4_code 12 = .ok (.if_icmp .le 8, 3) := by decide +kernel
theorem own_dW_15 : decode method_4_code 15 = .ok (.aload 5, 2) := by decide +kernel
theorem own_dW_17 : decode method_4_code 17 = .ok (.iconst 1, 1) := by decide +kernel
theorem own_dW_18 : decode method_4_code 18 = .ok (.lload_n 3, 1) := by decide +kernel
theorem own_dW_19 : decode method_4_code 19 = .ok (.lastore, 1) := by decide +kernel
theorem own_dW_20 : decode method_4_code 20 = .ok (.iload_n 0, 1) := by decide +kernel
theorem own_dW_21 : decode method_4_code 21 = .ok (.iconst 2, 1) := by decide +kernel
theorem own_dW_22 : decode method_4_code 22 = .ok (.if_icmp .le 8, 3) := by decide +kernel
theorem own_dW_25 : decode method_4_code 25 = .ok (.aload 5, 2) := by decide +kernel
theorem own_dW_27 : decode method_4_code 27 = .ok (.iconst 2, 1) := by decide +kernel
theorem own_dW_28 : decode method_4_code 28 = .ok (.lload_n 1, 1) := by decide +kernel
theorem own_dW_29 : decode method_4_code 29 = .ok (.lastore, 1) := by decide +kernel
theorem own_dW_30 : decode method_4_code 30 = .ok (.iload_n 0, 1) := by decide +kernel
theorem own_dW_31 : decode method_4_code 31 = .ok (.iconst 3, 1) := by decide +kernel
theorem own_dW_32 : decode method_4_code 32 = .ok (.if_icmp .le 8, 3) := by decide +kernel
theorem own_dW_35 : decode method_4_code 35 = .ok (.aload 5, 2) := by decide +kernel
theorem own_dW_37 : decode method_4_code 37 = .ok (.iconst 3, 1) := by decide +kernel
theorem own_dW_38 : decode method_4_code 38 = .ok (.lload_n 3, 1) := by decide +kernel
theorem own_dW_39 : decode method_4_code 39 = .ok (.lastore, 1) := by decide +kernel
theorem own_dW_40 : decode method_4_code 40 = .ok (.iload_n 0, 1) := by decide +kernel
theorem own_dW_41 : decode method_4_code 41 = .ok (.iconst 4, 1) := by decide +kernel
theorem own_dW_42 : decode method_4_code 42 = .ok (.if_icmp .le 8, 3) := by decide +kernel
theorem own_dW_45 : decode method_4_code 45 = .ok (.aload 5, 2) := by decide +kernel
theorem own_dW_47 : decode method_4_code 47 = .ok (.iconst 4, 1) := by decide +kernel
theorem own_dW_48 : decode method_4_code 48 = .ok (.lload_n 1, 1) := by decide +kernel
theorem own_dW_49 : decode method_4_code 49 = .ok (.lastore, 1) := by decide +kernel
theorem own_dW_50 : decode method_4_code 50 = .ok (.iload_n 0, 1) := by decide +kernel
theorem own_dW_51 : decode method_4_code 51 = .ok (.iconst 5, 1) := by decide +kernel
theorem own_dW_52 : decode method_4_code 52 = .ok (.if_icmp .le 8, 3) := by decide +kernel
theorem own_dW_55 : decode method_4_code 55 = .ok (.aload 5, 2) := by decide +kernel
theorem own_dW_57 : decode method_4_code 57 = .ok (.iconst 5, 1) := by decide +kernel
theorem own_dW_58 : decode method_4_code 58 = .ok (.lload_n 3, 1) := by decide +kernel
theorem own_dW_59 : decode method_4_code 59 = .ok (.lastore, 1) := by decide +kernel
theorem own_dW_60 : decode method_4_code 60 = .ok (.iload_n 0, 1) := by decide +kernel
theorem own_dW_61 : decode method_4_code 61 = .ok (.bipush 6, 2) := by decide +kernel
theorem own_dW_63 : decode method_4_code 63 = .ok (.if_icmp .le 9, 3) := by decide +kernel
theorem own_dW_66 : decode method_4_code 66 = .ok (.aload 5, 2) := by decide +kernel
theorem own_dW_68 : decode method_4_code 68 = .ok (.bipush 6, 2) := by decide +kernel
theorem own_dW_70 : decode method_4_code 70 = .ok (.lload_n 1, 1) := by decide +kernel
theorem own_dW_71 : decode method_4_code 71 = .ok (.lastore, 1) := by decide +kernel
theorem own_dW_72 : decode method_4_code 72 = .ok (.iload_n 0, 1) := by decide +kernel
theorem own_dW_73 : decode method_4_code 73 = .ok (.bipush 7, 2) := by decide +kernel
theorem own_dW_75 : decode method_4_code 75 = .ok (.if_icmp .le 9, 3) := by decide +kernel
theorem own_dW_78 : decode method_4_code 78 = .ok (.aload 5, 2) := by decide +kernel
theorem own_dW_80 : decode method_4_code 80 = .ok (.bipush 7, 2) := by decide +kernel
theorem own_dW_82 : decode method_4_code 82 = .ok (.lload_n 3, 1) := by decide +kernel
theorem own_dW_83 : decode method_4_code 83 = .ok (.lastore, 1) := by decide +kernel
theorem own_dW_84 : decode method_4_code 84 = .ok (.iload_n 0, 1) := by decide +kernel
theorem own_dW_85 : decode method_4_code 85 = .ok (.bipush 8, 2) := by decide +kernel
theorem own_dW_87 : decode method_4_code 87 = .ok (.if_icmp .le 9, 3) := by decide +kernel
theorem own_dW_90 : decode method_4_code 90 = .ok (.aload 5, 2) := by decide +kernel
theorem own_dW_92 : decode method_4_code 92 = .ok (.bipush 8, 2) := by decide +kernel
theorem own_dW_94 : decode method_4_code 94 = .ok (.lload_n 1, 1) := by decide +kernel
theorem own_dW_95 : decode method_4_code 95 = .ok (.lastore, 1) := by decide +kernel
theorem own_dW_96 : decode method_4_code 96 = .ok (.aload 5, 2) := by decide +kernel
theorem own_dW_98 : decode method_4_code 98 = .ok (.areturn, 1) := by decide +kernel
theorem own_pn_own_rmW : plainFor (⟨"com/example/load_across_peers/loadacrosspeers/internal/pick/AliasTableColumnsPinLaw", "weights", "(IJJ)[J"⟩ : MethodName) = true := plainFor_of_name (show plainName "com/example/load_across_peers/loadacrosspeers/internal/pick/AliasTableColumnsPinLaw" = true by first | (simp [plainName, overriddenIn]; done) | decide +kernel)
set_option maxRecDepth 65536 in
set_option maxHeartbeats 40000000 in
theorem own_rmW (l : Launch) (Z : State) (a0 : Array Value) (hw : ∀ d ∈ tables_1, d.before a0 Z = true) (ws : List Jvm.Cond) (h0 : Heap) (n0 : Nat) (Z0 : n0 ≤ h0.size) (n : Nat) (nI : Int32) (hnI : nI.toInt = n) (hn1 : 1 ≤ n) (hn9 : n ≤ 9) (ev od : Int64)  :
    own_C l Z (⟨"com/example/load_across_peers/loadacrosspeers/internal/pick/AliasTableColumnsPinLaw", "weights", "(IJJ)[J"⟩ : MethodName) method_4_code 6 (some (.array .long)) ws ({ frames := 0, cells := 1, slots := 9, locals := 0 } : Room) #[(.int nI), (.long ev), (.long od)] h0 (own_Q n0 (fun v h => ∃ b : Addr, v = some (.ref b) ∧ n0 ≤ h.size ∧ n0 ≤ b ∧ own_O Z h .long b n own_isJ)) := by
  refine own_met own_pn_own_rmW #[iv nI, jv ev, .second, jv od, .second, .unset] (fun m => by first | (simp [entryFrame, mkF, argsToLocals, Value.category]; done) | rfl) ?_
  intro p e s m below meth c s₁ hx hby hml hown hret hlk hZ hnm X0 e0
  replace X0 := own_S.of X0 (n0)
  have hn : n0 ≤ h0.size := Z0
  have zm1 : ((-1) : Int32).toInt = -1 := rfl
  have z0 : (0 : Int32).toInt = 0 := rfl
  have z1 : (1 : Int32).toInt = 1 := rfl
  have z2 : (2 : Int32).toInt = 2 := rfl
  have z3 : (3 : Int32).toInt = 3 := rfl
  have z4 : (4 : Int32).toInt = 4 := rfl
  have z5 : (5 : Int32).toInt = 5 := rfl
  have z6 : (6 : Int32).toInt = 6 := rfl
  have z7 : (7 : Int32).toInt = 7 := rfl
  have z8 : (8 : Int32).toInt = 8 := rfl
  refine own_gs 1 [(.int nI)] (fun t' k => XS.iloadN X0.here hx rfl (hb hby own_dW_0) rfl  k) ?_
  refine X0.newP hx hZ (hw _ (List.mem_of_getElem? (i := 9) rfl)) e0 n hnI (hb hby own_dW_1) 9 hn9 (by decide) (by decide) (by decide) ?_
  intro T1 h1 b1 X1 e1 q1 xt1 A_b1
  have g_b1 : n0 ≤ b1 := by rw [q1]; exact hn
  replace hn := Nat.le_trans hn xt1.1
  replace A_b1 : own_O Z h1 .long b1 n own_isJ := own_O.rep A_b1 ⟨_, rfl⟩
  refine own_go (mkF m 5 #[iv nI, jv ev, .second, jv od, .second, rv b1] []) (fun t' k => XS.astore X1.here hx rfl (hb hby own_dW_3) rfl rfl rfl k) ?_
  refine own_gs 7 [(.ref b1)] (fun t' k => XS.aload X1.here hx rfl (hb hby own_dW_5) rfl rfl  k) ?_
  refine own_gs 8 [(.int (0 : Int32)), (.ref b1)] (fun t' k => XS.iconst X1.here hx rfl (hb hby own_dW_7) k) ?_
  refine own_gs 9 [(.long ev), (.int (0 : Int32)), (.ref b1)] (fun t' k => XS.lloadN X1.here hx rfl (hb hby own_dW_8) rfl  k) ?_
  refine X1.stJo hx hZ e1 A_b1 g_b1 0 (by decide) (by omega) ⟨_, rfl⟩ (hb hby own_dW_9) ?_
  intro T2 h2 X2 e2 W2 A2
  replace A_b1 := A2
  replace hn := Nat.le_trans hn (Keep.of_wr W2).1
  clear W2 X1 e1
  refine own_gs 11 [(.int nI)] (fun t' k => XS.iloadN X2.here hx rfl (hb hby own_dW_10) rfl  k) ?_
  refine own_gs 12 [(.int (1 : Int32)), (.int nI)] (fun t' k => XS.iconst X2.here hx rfl (hb hby own_dW_11) k) ?_
  by_cases hc12 : (1 : Int32) < nI
  · skip
    have hc12i := Int32.lt_iff_toInt_lt.mp hc12
    refine own_gs 15 [] (fun t' k => XS.icmpNo X2.here hx rfl (hb hby own_dW_12) rfl (tlt hc12).2.2.2 k) ?_
    refine own_gs 17 [(.ref b1)] (fun t' k => XS.aload X2.here hx rfl (hb hby own_dW_15) rfl rfl  k) ?_
    refine own_gs 18 [(.int (1 : Int32)), (.ref b1)] (fun t' k => XS.iconst X2.here hx rfl (hb hby own_dW_17) k) ?_
    refine own_gs 19 [(.long od), (.int (1 : Int32)), (.ref b1)] (fun t' k => XS.lloadN X2.here hx rfl (hb hby own_dW_18) rfl  k) ?_
    refine X2.stJo hx hZ e2 A_b1 g_b1 1 (by decide) (by omega) ⟨_, rfl⟩ (hb hby own_dW_19) ?_
    intro T3 h3 X3 e3 W3 A3
    replace A_b1 := A3
    replace hn := Nat.le_trans hn (Keep.of_wr W3).1
    clear W3 X2 e2
    refine own_gs 21 [(.int nI)] (fun t' k => XS.iloadN X3.here hx rfl (hb hby own_dW_20) rfl  k) ?_
    refine own_gs 22 [(.int (2 : Int32)), (.int nI)] (fun t' k => XS.iconst X3.here hx rfl (hb hby own_dW_21) k) ?_
    by_cases hc22 : (2 : Int32) < nI
    · skip
      have hc22i := Int32.lt_iff_toInt_lt.mp hc22
      refine own_gs 25 [] (fun t' k => XS.icmpNo X3.here hx rfl (hb hby own_dW_22) rfl (tlt hc22).2.2.2 k) ?_
      refine own_gs 27 [(.ref b1)] (fun t' k => XS.aload X3.here hx rfl (hb hby own_dW_25) rfl rfl  k) ?_
      refine own_gs 28 [(.int (2 : Int32)), (.ref b1)] (fun t' k => XS.iconst X3.here hx rfl (hb hby own_dW_27) k) ?_
      refine own_gs 29 [(.long ev), (.int (2 : Int32)), (.ref b1)] (fun t' k => XS.lloadN X3.here hx rfl (hb hby own_dW_28) rfl  k) ?_
      refine X3.stJo hx hZ e3 A_b1 g_b1 2 (by decide) (by omega) ⟨_, rfl⟩ (hb hby own_dW_29) ?_
      intro T4 h4 X4 e4 W4 A4
      replace A_b1 := A4
      replace hn := Nat.le_trans hn (Keep.of_wr W4).1
      clear W4 X3 e3
      refine own_gs 31 [(.int nI)] (fun t' k => XS.iloadN X4.here hx rfl (hb hby own_dW_30) rfl  k) ?_
      refine own_gs 32 [(.int (3 : Int32)), (.int nI)] (fun t' k => XS.iconst X4.here hx rfl (hb hby own_dW_31) k) ?_
      by_cases hc32 : (3 : Int32) < nI
      · skip
        have hc32i := Int32.lt_iff_toInt_lt.mp hc32
        refine own_gs 35 [] (fun t' k => XS.icmpNo X4.here hx rfl (hb hby own_dW_32) rfl (tlt hc32).2.2.2 k) ?_
        refine own_gs 37 [(.ref b1)] (fun t' k => XS.aload X4.here hx rfl (hb hby own_dW_35) rfl rfl  k) ?_
        refine own_gs 38 [(.int (3 : Int32)), (.ref b1)] (fun t' k => XS.iconst X4.here hx rfl (hb hby own_dW_37) k) ?_
        refine own_gs 39 [(.long od), (.int (3 : Int32)), (.ref b1)] (fun t' k => XS.lloadN X4.here hx rfl (hb hby own_dW_38) rfl  k) ?_
        refine X4.stJo hx hZ e4 A_b1 g_b1 3 (by decide) (by omega) ⟨_, rfl⟩ (hb hby own_dW_39) ?_
        intro T5 h5 X5 e5 W5 A5
        replace A_b1 := A5
        replace hn := Nat.le_trans hn (Keep.of_wr W5).1
        clear W5 X4 e4
        refine own_gs 41 [(.int nI)] (fun t' k => XS.iloadN X5.here hx rfl (hb hby own_dW_40) rfl  k) ?_
        refine own_gs 42 [(.int (4 : Int32)), (.int nI)] (fun t' k => XS.iconst X5.here hx rfl (hb hby own_dW_41) k) ?_
        by_cases hc42 : (4 : Int32) < nI
        · skip
          have hc42i := Int32.lt_iff_toInt_lt.mp hc42
          refine own_gs 45 [] (fun t' k => XS.icmpNo X5.here hx rfl (hb hby own_dW_42) rfl (tlt hc42).2.2.2 k) ?_
          refine own_gs 47 [(.ref b1)] (fun t' k => XS.aload X5.here hx rfl (hb hby own_dW_45) rfl rfl  k) ?_
          refine own_gs 48 [(.int (4 : Int32)), (.ref b1)] (fun t' k => XS.iconst X5.here hx rfl (hb hby own_dW_47) k) ?_
          refine own_gs 49 [(.long ev), (.int (4 : Int32)), (.ref b1)] (fun t' k => XS.lloadN X5.here hx rfl (hb hby own_dW_48) rfl  k) ?_
          refine X5.stJo hx hZ e5 A_b1 g_b1 4 (by decide) (by omega) ⟨_, rfl⟩ (hb hby own_dW_49) ?_
          intro T6 h6 X6 e6 W6 A6
          replace A_b1 := A6
          replace hn := Nat.le_trans hn (Keep.of_wr W6).1
          clear W6 X5 e5
          refine own_gs 51 [(.int nI)] (fun t' k => XS.iloadN X6.here hx rfl (hb hby own_dW_50) rfl  k) ?_
          refine own_gs 52 [(.int (5 : Int32)), (.int nI)] (fun t' k => XS.iconst X6.here hx rfl (hb hby own_dW_51) k) ?_
          by_cases hc52 : (5 : Int32) < nI
          · skip
            have hc52i := Int32.lt_iff_toInt_lt.mp hc52
            refine own_gs 55 [] (fun t' k => XS.icmpNo X6.here hx rfl (hb hby own_dW_52) rfl (tlt hc52).2.2.2 k) ?_
            refine own_gs 57 [(.ref b1)] (fun t' k => XS.aload X6.here hx rfl (hb hby own_dW_55) rfl rfl  k) ?_
            refine own_gs 58 [(.int (5 : Int32)), (.ref b1)] (fun t' k => XS.iconst X6.here hx rfl (hb hby own_dW_57) k) ?_
            refine own_gs 59 [(.long od), (.int (5 : Int32)), (.ref b1)] (fun t' k => XS.lloadN X6.here hx rfl (hb hby own_dW_58) rfl  k) ?_
            refine X6.stJo hx hZ e6 A_b1 g_b1 5 (by decide) (by omega) ⟨_, rfl⟩ (hb hby own_dW_59) ?_
            intro T7 h7 X7 e7 W7 A7
            replace A_b1 := A7
            replace hn := Nat.le_trans hn (Keep.of_wr W7).1
            clear W7 X6 e6
            refine own_gs 61 [(.int nI)] (fun t' k => XS.iloadN X7.here hx rfl (hb hby own_dW_60) rfl  k) ?_
            refine own_gs 63 [(.int (6 : Int32)), (.int nI)] (fun t' k => XS.bipush X7.here hx rfl (hb hby own_dW_61) k) ?_
            by_cases hc63 : (6 : Int32) < nI
            · skip
              have hc63i := Int32.lt_iff_toInt_lt.mp hc63
              refine own_gs 66 [] (fun t' k => XS.icmpNo X7.here hx rfl (hb hby own_dW_63) rfl (tlt hc63).2.2.2 k) ?_
              refine own_gs 68 [(.ref b1)] (fun t' k => XS.aload X7.here hx rfl (hb hby own_dW_66) rfl rfl  k) ?_
              refine own_gs 70 [(.int (6 : Int32)), (.ref b1)] (fun t' k => XS.bipush X7.here hx rfl (hb hby own_dW_68) k) ?_
              refine own_gs 71 [(.long ev), (.int (6 : Int32)), (.ref b1)] (fun t' k => XS.lloadN X7.here hx rfl (hb hby own_dW_70) rfl  k) ?_
              refine X7.stJo hx hZ e7 A_b1 g_b1 6 (by decide) (by omega) ⟨_, rfl⟩ (hb hby own_dW_71) ?_
              intro T8 h8 X8 e8 W8 A8
              replace A_b1 := A8
              replace hn := Nat.le_trans hn (Keep.of_wr W8).1
              clear W8 X7 e7
              refine own_gs 73 [(.int nI)] (fun t' k => XS.iloadN X8.here hx rfl (hb hby own_dW_72) rfl  k) ?_
              refine own_gs 75 [(.int (7 : Int32)), (.int nI)] (fun t' k => XS.bipush X8.here hx rfl (hb hby own_dW_73) k) ?_
              by_cases hc75 : (7 : Int32) < nI
              · skip
                have hc75i := Int32.lt_iff_toInt_lt.mp hc75
                refine own_gs 78 [] (fun t' k => XS.icmpNo X8.here hx rfl (hb hby own_dW_75) rfl (tlt hc75).2.2.2 k) ?_
                refine own_gs 80 [(.ref b1)] (fun t' k => XS.aload X8.here hx rfl (hb hby own_dW_78) rfl rfl  k) ?_
                refine own_gs 82 [(.int (7 : Int32)), (.ref b1)] (fun t' k => XS.bipush X8.here hx rfl (hb hby own_dW_80) k) ?_
                refine own_gs 83 [(.long od), (.int (7 : Int32)), (.ref b1)] (fun t' k => XS.lloadN X8.here hx rfl (hb hby own_dW_82) rfl  k) ?_
                refine X8.stJo hx hZ e8 A_b1 g_b1 7 (by decide) (by omega) ⟨_, rfl⟩ (hb hby own_dW_83) ?_
                intro T9 h9 X9 e9 W9 A9
                replace A_b1 := A9
                replace hn := Nat.le_trans hn (Keep.of_wr W9).1
                clear W9 X8 e8
                refine own_gs 85 [(.int nI)] (fun t' k => XS.iloadN X9.here hx rfl (hb hby own_dW_84) rfl  k) ?_
                refine own_gs 87 [(.int (8 : Int32)), (.int nI)] (fun t' k => XS.bipush X9.here hx rfl (hb hby own_dW_85) k) ?_
                by_cases hc87 : (8 : Int32) < nI
                · skip
                  have hc87i := Int32.lt_iff_toInt_lt.mp hc87
                  refine own_gs 90 [] (fun t' k => XS.icmpNo X9.here hx rfl (hb hby own_dW_87) rfl (tlt hc87).2.2.2 k) ?_
                  refine own_gs 92 [(.ref b1)] (fun t' k => XS.aload X9.here hx rfl (hb hby own_dW_90) rfl rfl  k) ?_
                  refine own_gs 94 [(.int (8 : Int32)), (.ref b1)] (fun t' k => XS.bipush X9.here hx rfl (hb hby own_dW_92) k) ?_
                  refine own_gs 95 [(.long ev), (.int (8 : Int32)), (.ref b1)] (fun t' k => XS.lloadN X9.here hx rfl (hb hby own_dW_94) rfl  k) ?_
                  refine X9.stJo hx hZ e9 A_b1 g_b1 8 (by decide) (by omega) ⟨_, rfl⟩ (hb hby own_dW_95) ?_
                  intro T10 h10 X10 e10 W10 A10
                  replace A_b1 := A10
                  replace hn := Nat.le_trans hn (Keep.of_wr W10).1
                  clear W10 X9 e9
                  refine own_gs 98 [(.ref b1)] (fun t' k => XS.aload X10.here hx rfl (hb hby own_dW_96) rfl rfl  k) ?_
                  refine X10.retA hx hlk hret rfl rfl (hb hby own_dW_98) ?_ (by decide) (by decide)
                  rw [e10]
                  exact ⟨_, rfl, hn, g_b1, A_b1⟩
                · skip
                  have hc87i : ¬ ((8 : Int32).toInt < nI.toInt) := fun q' => hc87 (Int32.lt_iff_toInt_lt.mpr q')
                  refine own_gs 96 [] (fun t' k => XS.icmpYes X9.here hx rfl (pc0 := 87) (pc' := 96) rfl (hb hby own_dW_87) rfl (flt hc87).2.2.2 (by decide) (by decide) k) ?_
                  refine own_gs 98 [(.ref b1)] (fun t' k => XS.aload X9.here hx rfl (hb hby own_dW_96) rfl rfl  k) ?_
                  refine X9.retA hx hlk hret rfl rfl (hb hby own_dW_98) ?_ (by decide) (by decide)
                  rw [e9]
                  exact ⟨_, rfl, hn, g_b1, A_b1⟩
              · skip
                have hc75i : ¬ ((7 : Int32).toInt < nI.toInt) := fun q' => hc75 (Int32.lt_iff_toInt_lt.mpr q')
                refine own_gs 84 [] (fun t' k => XS.icmpYes X8.here hx rfl (pc0 := 75) (pc' := 84) rfl (hb hby own_dW_75) rfl (flt hc75).2.2.2 (by decide) (by decide) k) ?_
                refine own_gs 85 [(.int nI)] (fun t' k => XS.iloadN X8.here hx rfl (hb hby own_dW_84) rfl  k) ?_
                refine own_gs 87 [(.int (8 : Int32)), (.int nI)] (fun t' k => XS.bipush X8.here hx rfl (hb hby own_dW_85) k) ?_
                refine own_gs 96 [] (fun t' k => XS.icmpYes X8.here hx rfl (pc0 := 87) (pc' := 96) rfl (hb hby own_dW_87) rfl (flt (fun q => by have q2 := Int32.lt_iff_toInt_lt.mp q; omega)).2.2.2 (by decide) (by decide) k) ?_
                refine own_gs 98 [(.ref b1)] (fun t' k => XS.aload X8.here hx rfl (hb hby own_dW_96) rfl rfl  k) ?_
                refine X8.retA hx hlk hret rfl rfl (hb hby own_dW_98) ?_ (by decide) (by decide)
                rw [e8]
                exact ⟨_, rfl, hn, g_b1, A_b1⟩
            · skip
              have hc63i : ¬ ((6 : Int32).toInt < nI.toInt) := fun q' => hc63 (Int32.lt_iff_toInt_lt.mpr q')
              refine own_gs 72 [] (fun t' k => XS.icmpYes X7.here hx rfl (pc0 := 63) (pc' := 72) rfl (hb hby own_dW_63) rfl (flt hc63).2.2.2 (by decide) (by decide) k) ?_
              refine own_gs 73 [(.int nI)] (fun t' k => XS.iloadN X7.here hx rfl (hb hby own_dW_72) rfl  k) ?_
              refine own_gs 75 [(.int (7 : Int32)), (.int nI)] (fun t' k => XS.bipush X7.here hx rfl (hb hby own_dW_73) k) ?_
              refine own_gs 84 [] (fun t' k => XS.icmpYes X7.here hx rfl (pc0 := 75) (pc' := 84) rfl (hb hby own_dW_75) rfl (flt (fun q => by have q2 := Int32.lt_iff_toInt_lt.mp q; omega)).2.2.2 (by decide) (by decide) k) ?_
              refine own_gs 85 [(.int nI)] (fun t' k => XS.iloadN X7.here hx rfl (hb hby own_dW_84) rfl  k) ?_
              refine own_gs 87 [(.int (8 : Int32)), (.int nI)] (fun t' k => XS.bipush X7.here hx rfl (hb hby own_dW_85) k) ?_
              refine own_gs 96 [] (fun t' k => XS.icmpYes X7.here hx rfl (pc0 := 87) (pc' := 96) rfl (hb hby own_dW_87) rfl (flt (fun q => by have q2 := Int32.lt_iff_toInt_lt.mp q; omega)).2.2.2 (by decide) (by decide) k) ?_
              refine own_gs 98 [(.ref b1)] (fun t' k => XS.aload X7.here hx rfl (hb hby own_dW_96) rfl rfl  k) ?_
              refine X7.retA hx hlk hret rfl rfl (hb hby own_dW_98) ?_ (by decide) (by decide)
              rw [e7]
              exact ⟨_, rfl, hn, g_b1, A_b1⟩
          · skip
            have hc52i : ¬ ((5 : Int32).toInt < nI.toInt) := fun q' => hc52 (Int32.lt_iff_toInt_lt.mpr q')
            refine own_gs 60 [] (fun t' k => XS.icmpYes X6.here hx rfl (pc0 := 52) (pc' := 60) rfl (hb hby own_dW_52) rfl (flt hc52).2.2.2 (by decide) (by decide) k) ?_
            refine own_gs 61 [(.int nI)] (fun t' k => XS.iloadN X6.here hx rfl (hb hby own_dW_60) rfl  k) ?_
            refine own_gs 63 [(.int (6 : Int32)), (.int nI)] (fun t' k => XS.bipush X6.here hx rfl (hb hby own_dW_61) k) ?_
            refine own_gs 72 [] (fun t' k => XS.icmpYes X6.here hx rfl (pc0 := 63) (pc' := 72) rfl (hb hby own_dW_63) rfl (flt (fun q => by have q2 := Int32.lt_iff_toInt_lt.mp q; omega)).2.2.2 (by decide) (by decide) k) ?_
            refine own_gs 73 [(.int nI)] (fun t' k => XS.iloadN X6.here hx rfl (hb hby own_dW_72) rfl  k) ?_
            refine own_gs 75 [(.int (7 : Int32)), (.int nI)] (fun t' k => XS.bipush X6.here hx rfl (hb hby own_dW_73) k) ?_
            refine own_gs 84 [] (fun t' k => XS.icmpYes X6.here hx rfl (pc0 := 75) (pc' := 84) rfl (hb hby own_dW_75) rfl (flt (fun q => by have q2 := Int32.lt_iff_toInt_lt.mp q; omega)).2.2.2 (by decide) (by decide) k) ?_
            refine own_gs 85 [(.int nI)] (fun t' k => XS.iloadN X6.here hx rfl (hb hby own_dW_84) rfl  k) ?_
            refine own_gs 87 [(.int (8 : Int32)), (.int nI)] (fun t' k => XS.bipush X6.here hx rfl (hb hby own_dW_85) k) ?_
            refine own_gs 96 [] (fun t' k => XS.icmpYes X6.here hx rfl (pc0 := 87) (pc' := 96) rfl (hb hby own_dW_87) rfl (flt (fun q => by have q2 := Int32.lt_iff_toInt_lt.mp q; omega)).2.2.2 (by decide) (by decide) k) ?_
            refine own_gs 98 [(.ref b1)] (fun t' k => XS.aload X6.here hx rfl (hb hby own_dW_96) rfl rfl  k) ?_
            refine X6.retA hx hlk hret rfl rfl (hb hby own_dW_98) ?_ (by decide) (by decide)
            rw [e6]
            exact ⟨_, rfl, hn, g_b1, A_b1⟩
        · skip
          have hc42i : ¬ ((4 : Int32).toInt < nI.toInt) := fun q' => hc42 (Int32.lt_iff_toInt_lt.mpr q')
          refine own_gs 50 [] (fun t' k => XS.icmpYes X5.here hx rfl (pc0 := 42) (pc' := 50) rfl (hb hby own_dW_42) rfl (flt hc42).2.2.2 (by decide) (by decide) k) ?_
          refine own_gs 51 [(.int nI)] (fun t' k => XS.iloadN X5.here hx rfl (hb hby own_dW_50) rfl  k) ?_
          refine own_gs 52 [(.int (5 : Int32)), (.int nI)] (fun t' k => XS.iconst X5.here hx rfl (hb hby own_dW_51) k) ?_
          refine own_gs 60 [] (fun t' k => XS.icmpYes X5.here hx rfl (pc0 := 52) (pc' := 60) rfl (hb hby own_dW_52) rfl (flt (fun q => by have q2 := Int32.lt_iff_toInt_lt.mp q; omega)).2.2.2 (by decide) (by decide) k) ?_
          refine own_gs 61 [(.int nI)] (fun t' k => XS.iloadN X5.here hx rfl (hb hby own_dW_60) rfl  k) ?_
          refine own_gs 63 [(.int (6 : Int32)), (.int nI)] (fun t' k => XS.bipush X5.here hx rfl (hb hby own_dW_61) k) ?_
          refine own_gs 72 [] (fun t' k => XS.icmpYes X5.here hx rfl (pc0 := 63) (pc' := 72) rfl (hb hby own_dW_63) rfl (flt (fun q => by have q2 := Int32.lt_iff_toInt_lt.mp q; omega)).2.2.2 (by decide) (by decide) k) ?_
          refine own_gs 73 [(.int nI)] (fun t' k => XS.iloadN X5.here hx rfl (hb hby own_dW_72) rfl  k) ?_
          refine own_gs 75 [(.int (7 : Int32)), (.int nI)] (fun t' k => XS.bipush X5.here hx rfl (hb hby own_dW_73) k) ?_
          refine own_gs 84 [] (fun t' k => XS.icmpYes X5.here hx rfl (pc0 := 75) (pc' := 84) rfl (hb hby own_dW_75) rfl (flt (fun q => by have q2 := Int32.lt_iff_toInt_lt.mp q; omega)).2.2.2 (by decide) (by decide) k) ?_
          refine own_gs 85 [(.int nI)] (fun t' k => XS.iloadN X5.here hx rfl (hb hby own_dW_84) rfl  k) ?_
          refine own_gs 87 [(.int (8 : Int32)), (.int nI)] (fun t' k => XS.bipush X5.here hx rfl (hb hby own_dW_85) k) ?_
          refine own_gs 96 [] (fun t' k => XS.icmpYes X5.here hx rfl (pc0 := 87) (pc' := 96) rfl (hb hby own_dW_87) rfl (flt (fun q => by have q2 := Int32.lt_iff_toInt_lt.mp q; omega)).2.2.2 (by decide) (by decide) k) ?_
          refine own_gs 98 [(.ref b1)] (fun t' k => XS.aload X5.here hx rfl (hb hby own_dW_96) rfl rfl  k) ?_
          refine X5.retA hx hlk hret rfl rfl (hb hby own_dW_98) ?_ (by decide) (by decide)
          rw [e5]
          exact ⟨_, rfl, hn, g_b1, A_b1⟩
      · skip
        have hc32i : ¬ ((3 : Int32).toInt < nI.toInt) := fun q' => hc32 (Int32.lt_iff_toInt_lt.mpr q')
        refine own_gs 40 [] (fun t' k => XS.icmpYes X4.here hx rfl (pc0 := 32) (pc' := 40) rfl (hb hby own_dW_32) rfl (flt hc32).2.2.2 (by decide) (by decide) k) ?_
        refine own_gs 41 [(.int nI)] (fun t' k => XS.iloadN X4.here hx rfl (hb hby own_dW_40) rfl  k) ?_
        refine own_gs 42 [(.int (4 : Int32)), (.int nI)] (fun t' k => XS.iconst X4.here hx rfl (hb hby own_dW_41) k) ?_
        refine own_gs 50 [] (fun t' k => XS.icmpYes X4.here hx rfl (pc0 := 42) (pc' := 50) rfl (hb hby own_dW_42) rfl (flt (fun q => by have q2 := Int32.lt_iff_toInt_lt.mp q; omega)).2.2.2 (by decide) (by decide) k) ?_
        refine own_gs 51 [(.int nI)] (fun t' k => XS.iloadN X4.here hx rfl (hb hby own_dW_50) rfl  k) ?_
        refine own_gs 52 [(.int (5 : Int32)), (.int nI)] (fun t' k => XS.iconst X4.here hx rfl (hb hby own_dW_51) k) ?_
        refine own_gs 60 [] (fun t' k => XS.icmpYes X4.here hx rfl (pc0 := 52) (pc' := 60) rfl (hb hby own_dW_52) rfl (flt (fun q => by have q2 := Int32.lt_iff_toInt_lt.mp q; omega)).2.2.2 (by decide) (by decide) k) ?_
        refine own_gs 61 [(.int nI)] (fun t' k => XS.iloadN X4.here hx rfl (hb hby own_dW_60) rfl  k) ?_
        refine own_gs 63 [(.int (6 : Int32)), (.int nI)] (fun t' k => XS.bipush X4.here hx rfl (hb hby own_dW_61) k) ?_
        refine own_gs 72 [] (fun t' k => XS.icmpYes X4.here hx rfl (pc0 := 63) (pc' := 72) rfl (hb hby own_dW_63) rfl (flt (fun q => by have q2 := Int32.lt_iff_toInt_lt.mp q; omega)).2.2.2 (by decide) (by decide) k) ?_
        refine own_gs 73 [(.int nI)] (fun t' k => XS.iloadN X4.here hx rfl (hb hby own_dW_72) rfl  k) ?_
        refine own_gs 75 [(.int (7 : Int32)), (.int nI)] (fun t' k => XS.bipush X4.here hx rfl (hb hby own_dW_73) k) ?_
        refine own_gs 84 [] (fun t' k => XS.icmpYes X4.here hx rfl (pc0 := 75) (pc' := 84) rfl (hb hby own_dW_75) rfl (flt (fun q => by have q2 := Int32.lt_iff_toInt_lt.mp q; omega)).2.2.2 (by decide) (by decide) k) ?_
        refine own_gs 85 [(.int nI)] (fun t' k => XS.iloadN X4.here hx rfl (hb hby own_dW_84) rfl  k) ?_
        refine own_gs 87 [(.int (8 : Int32)), (.int nI)] (fun t' k => XS.bipush X4.here hx rfl (hb hby own_dW_85) k) ?_
        refine own_gs 96 [] (fun t' k => XS.icmpYes X4.here hx rfl (pc0 := 87) (pc' := 96) rfl (hb hby own_dW_87) rfl (flt (fun q => by have q2 := Int32.lt_iff_toInt_lt.mp q; omega)).2.2.2 (by decide) (by decide) k) ?_
        refine own_gs 98 [(.ref b1)] (fun t' k => XS.aload X4.here hx rfl (hb hby own_dW_96) rfl rfl  k) ?_
        refine X4.retA hx hlk hret rfl rfl (hb hby own_dW_98) ?_ (by decide) (by decide)
        rw [e4]
        exact ⟨_, rfl, hn, g_b1, A_b1⟩
    · skip
      have hc22i : ¬ ((2 : Int32).toInt < nI.toInt) := fun q' => hc22 (Int32.lt_iff_toInt_lt.mpr q')
      refine own_gs 30 [] (fun t' k => XS.icmpYes X3.here hx rfl (pc0 := 22) (pc' := 30) rfl (hb hby own_dW_22) rfl (flt hc22).2.2.2 (by decide) (by decide) k) ?_
      refine own_gs 31 [(.int nI)] (fun t' k => XS.iloadN X3.here hx rfl (hb hby own_dW_30) rfl  k) ?_
      refine own_gs 32 [(.int (3 : Int32)), (.int nI)] (fun t' k => XS.iconst X3.here hx rfl (hb hby own_dW_31) k) ?_
      refine own_gs 40 [] (fun t' k => XS.icmpYes X3.here hx rfl (pc0 := 32) (pc' := 40) rfl (hb hby own_dW_32) rfl (flt (fun q => by have q2 := Int32.lt_iff_toInt_lt.mp q; omega)).2.2.2 (by decide) (by decide) k) ?_
      refine own_gs 41 [(.int nI)] (fun t' k => XS.iloadN X3.here hx rfl (hb hby own_dW_40) rfl  k) ?_
      refine own_gs 42 [(.int (4 : Int32)), (.int nI)] (fun t' k => XS.iconst X3.here hx rfl (hb hby own_dW_41) k) ?_
      refine own_gs 50 [] (fun t' k => XS.icmpYes X3.here hx rfl (pc0 := 42) (pc' := 50) rfl (hb hby own_dW_42) rfl (flt (fun q => by have q2 := Int32.lt_iff_toInt_lt.mp q; omega)).2.2.2 (by decide) (by decide) k) ?_
      refine own_gs 51 [(.int nI)] (fun t' k => XS.iloadN X3.here hx rfl (hb hby own_dW_50) rfl  k) ?_
      refine own_gs 52 [(.int (5 : Int32)), (.int nI)] (fun t' k => XS.iconst X3.here hx rfl (hb hby own_dW_51) k) ?_
      refine own_gs 60 [] (fun t' k => XS.icmpYes X3.here hx rfl (pc0 := 52) (pc' := 60) rfl (hb hby own_dW_52) rfl (flt (fun q => by have q2 := Int32.lt_iff_toInt_lt.mp q; omega)).2.2.2 (by decide) (by decide) k) ?_
      refine own_gs 61 [(.int nI)] (fun t' k => XS.iloadN X3.here hx rfl (hb hby own_dW_60) rfl  k) ?_
      refine own_gs 63 [(.int (6 : Int32)), (.int nI)] (fun t' k => XS.bipush X3.here hx rfl (hb hby own_dW_61) k) ?_
      refine own_gs 72 [] (fun t' k => XS.icmpYes X3.here hx rfl (pc0 := 63) (pc' := 72) rfl (hb hby own_dW_63) rfl (flt (fun q => by have q2 := Int32.lt_iff_toInt_lt.mp q; omega)).2.2.2 (by decide) (by decide) k) ?_
      refine own_gs 73 [(.int nI)] (fun t' k => XS.iloadN X3.here hx rfl (hb hby own_dW_72) rfl  k) ?_
      refine own_gs 75 [(.int (7 : Int32)), (.int nI)] (fun t' k => XS.bipush X3.here hx rfl (hb hby own_dW_73) k) ?_
      refine own_gs 84 [] (fun t' k => XS.icmpYes X3.here hx rfl (pc0 := 75) (pc' := 84) rfl (hb hby own_dW_75) rfl (flt (fun q => by have q2 := Int32.lt_iff_toInt_lt.mp q; omega)).2.2.2 (by decide) (by decide) k) ?_
      refine own_gs 85 [(.int nI)] (fun t' k => XS.iloadN X3.here hx rfl (hb hby own_dW_84) rfl  k) ?_
      refine own_gs 87 [(.int (8 : Int32)), (.int nI)] (fun t' k => XS.bipush X3.here hx rfl (hb hby own_dW_85) k) ?_
      refine own_gs 96 [] (fun t' k => XS.icmpYes X3.here hx rfl (pc0 := 87) (pc' := 96) rfl (hb hby own_dW_87) rfl (flt (fun q => by have q2 := Int32.lt_iff_toInt_lt.mp q; omega)).2.2.2 (by decide) (by decide) k) ?_
      refine own_gs 98 [(.ref b1)] (fun t' k => XS.aload X3.here hx rfl (hb hby own_dW_96) rfl rfl  k) ?_
      refine X3.retA hx hlk hret rfl rfl (hb hby own_dW_98) ?_ (by decide) (by decide)
      rw [e3]
      exact ⟨_, rfl, hn, g_b1, A_b1⟩
  · skip
    have hc12i : ¬ ((1 : Int32).toInt < nI.toInt) := fun q' => hc12 (Int32.lt_iff_toInt_lt.mpr q')
    refine own_gs 20 [] (fun t' k => XS.icmpYes X2.here hx rfl (pc0 := 12) (pc' := 20) rfl (hb hby own_dW_12) rfl (flt hc12).2.2.2 (by decide) (by decide) k) ?_
    refine own_gs 21 [(.int nI)] (fun t' k => XS.iloadN X2.here hx rfl (hb hby own_dW_20) rfl  k) ?_
    refine own_gs 22 [(.int (2 : Int32)), (.int nI)] (fun t' k => XS.iconst X2.here hx rfl (hb hby own_dW_21) k) ?_
    refine own_gs 30 [] (fun t' k => XS.icmpYes X2.here hx rfl (pc0 := 22) (pc' := 30) rfl (hb hby own_dW_22) rfl (flt (fun q => by have q2 := Int32.lt_iff_toInt_lt.mp q; omega)).2.2.2 (by decide) (by decide) k) ?_
    refine own_gs 31 [(.int nI)] (fun t' k => XS.iloadN X2.here hx rfl (hb hby own_dW_30) rfl  k) ?_
    refine own_gs 32 [(.int (3 : Int32)), (.int nI)] (fun t' k => XS.iconst X2.here hx rfl (hb hby own_dW_31) k) ?_
    refine own_gs 40 [] (fun t' k => XS.icmpYes X2.here hx rfl (pc0 := 32) (pc' := 40) rfl (hb hby own_dW_32) rfl (flt (fun q => by have q2 := Int32.lt_iff_toInt_lt.mp q; omega)).2.2.2 (by decide) (by decide) k) ?_
    refine own_gs 41 [(.int nI)] (fun t' k => XS.iloadN X2.here hx rfl (hb hby own_dW_40) rfl  k) ?_
    refine own_gs 42 [(.int (4 : Int32)), (.int nI)] (fun t' k => XS.iconst X2.here hx rfl (hb hby own_dW_41) k) ?_
    refine own_gs 50 [] (fun t' k => XS.icmpYes X2.here hx rfl (pc0 := 42) (pc' := 50) rfl (hb hby own_dW_42) rfl (flt (fun q => by have q2 := Int32.lt_iff_toInt_lt.mp q; omega)).2.2.2 (by decide) (by decide) k) ?_
    refine own_gs 51 [(.int nI)] (fun t' k => XS.iloadN X2.here hx rfl (hb hby own_dW_50) rfl  k) ?_
    refine own_gs 52 [(.int (5 : Int32)), (.int nI)] (fun t' k => XS.iconst X2.here hx rfl (hb hby own_dW_51) k) ?_
    refine own_gs 60 [] (fun t' k => XS.icmpYes X2.here hx rfl (pc0 := 52) (pc' := 60) rfl (hb hby own_dW_52) rfl (flt (fun q => by have q2 := Int32.lt_iff_toInt_lt.mp q; omega)).2.2.2 (by decide) (by decide) k) ?_
    refine own_gs 61 [(.int nI)] (fun t' k => XS.iloadN X2.here hx rfl (hb hby own_dW_60) rfl  k) ?_
    refine own_gs 63 [(.int (6 : Int32)), (.int nI)] (fun t' k => XS.bipush X2.here hx rfl (hb hby own_dW_61) k) ?_
    refine own_gs 72 [] (fun t' k => XS.icmpYes X2.here hx rfl (pc0 := 63) (pc' := 72) rfl (hb hby own_dW_63) rfl (flt (fun q => by have q2 := Int32.lt_iff_toInt_lt.mp q; omega)).2.2.2 (by decide) (by decide) k) ?_
    refine own_gs 73 [(.int nI)] (fun t' k => XS.iloadN X2.here hx rfl (hb hby own_dW_72) rfl  k) ?_
    refine own_gs 75 [(.int (7 : Int32)), (.int nI)] (fun t' k => XS.bipush X2.here hx rfl (hb hby own_dW_73) k) ?_
    refine own_gs 84 [] (fun t' k => XS.icmpYes X2.here hx rfl (pc0 := 75) (pc' := 84) rfl (hb hby own_dW_75) rfl (flt (fun q => by have q2 := Int32.lt_iff_toInt_lt.mp q; omega)).2.2.2 (by decide) (by decide) k) ?_
    refine own_gs 85 [(.int nI)] (fun t' k => XS.iloadN X2.here hx rfl (hb hby own_dW_84) rfl  k) ?_
    refine own_gs 87 [(.int (8 : Int32)), (.int nI)] (fun t' k => XS.bipush X2.here hx rfl (hb hby own_dW_85) k) ?_
    refine own_gs 96 [] (fun t' k => XS.icmpYes X2.here hx rfl (pc0 := 87) (pc' := 96) rfl (hb hby own_dW_87) rfl (flt (fun q => by have q2 := Int32.lt_iff_toInt_lt.mp q; omega)).2.2.2 (by decide) (by decide) k) ?_
    refine own_gs 98 [(.ref b1)] (fun t' k => XS.aload X2.here hx rfl (hb hby own_dW_96) rfl rfl  k) ?_
    refine X2.retA hx hlk hret rfl rfl (hb hby own_dW_98) ?_ (by decide) (by decide)
    rw [e2]
    exact ⟨_, rfl, hn, g_b1, A_b1⟩

theorem own_dC_0 : decode prog_10_method_4_code 0 = .ok (.aload_n 0, 1) := by decide +kernel
theorem own_dC_1 : decode prog_10_method_4_code 1 = .ok (.getfield 30, 3) := by decide +kernel
theorem own_dC_4 : decode prog_10_method_4_code 4 = .ok (.ifnull 11, 3) := by decide +kernel
theorem own_dC_7 : decode prog_10_method_4_code 7 = .ok (.aload_n 0, 1) := by decide +kernel
theorem own_dC_8 : decode prog_10_method_4_code 8 = .ok (.getfield 30, 3) := by decide +kernel
theorem own_dC_11 : decode prog_10_method_4_code 11 = .ok (.arraylength, 1) := by decide +kernel
theorem own_dC_12 : decode prog_10_method_4_code 12 = .ok (.goto 8, 3) := by decide +kernel
theorem own_dC_20 : decode prog_10_method_4_code 20 = .ok (.ireturn, 1) := by decide +kernel
theorem own_pn_own_rmCA : plainFor (⟨"com/example/load_across_peers/loadacrosspeers/internal/pick/AliasTable", "columns", "()I"⟩ : MethodName) = true := plainFor_of_name (show plainName "com/example/load_across_peers/loadacrosspeers/internal/pick/AliasTable" = true by first | (simp [plainName, overriddenIn]; done) | decide +kernel)
set_option maxRecDepth 65536 in
set_option maxHeartbeats 40000000 in
theorem own_rmCA (l : Launch) (Z : State) (a0 : Array Value) (hw : ∀ d ∈ tables_1, d.before a0 Z = true) (ws : List Jvm.Cond) (h0 : Heap) (n0 : Nat) (Z0 : n0 ≤ h0.size) (t b : Addr) (cn : Nat) (A_b : own_O Z h0 .long b cn own_isJ) (F_packed : Fld Z h0 t "com/example/load_across_peers/loadacrosspeers/internal/pick/AliasTable" "packed" "[J" (.ref b))  :
    own_C l Z (⟨"com/example/load_across_peers/loadacrosspeers/internal/pick/AliasTable", "columns", "()I"⟩ : MethodName) prog_10_method_4_code 1 (some .int) ws ({ frames := 0, cells := 0, slots := 0, locals := 0 } : Room) #[(.ref t)] h0 (own_Q n0 (fun v h => v = some (.int (Int32.ofNat cn)) ∧ h = h0)) := by
  refine own_met own_pn_own_rmCA #[rv t] (fun m => by first | (simp [entryFrame, mkF, argsToLocals, Value.category]; done) | rfl) ?_
  intro p e s m below meth c s₁ hx hby hml hown hret hlk hZ hnm X0 e0
  replace X0 := own_S.of X0 (n0)
  have hn : n0 ≤ h0.size := Z0
  have zm1 : ((-1) : Int32).toInt = -1 := rfl
  have z0 : (0 : Int32).toInt = 0 := rfl
  have z1 : (1 : Int32).toInt = 1 := rfl
  have z2 : (2 : Int32).toInt = 2 := rfl
  have z3 : (3 : Int32).toInt = 3 := rfl
  have z4 : (4 : Int32).toInt = 4 := rfl
  have z5 : (5 : Int32).toInt = 5 := rfl
  have z6 : (6 : Int32).toInt = 6 := rfl
  have z7 : (7 : Int32).toInt = 7 := rfl
  have z8 : (8 : Int32).toInt = 8 := rfl
  refine own_gs 1 [(.ref t)] (fun t' k => XS.aloadN X0.here hx rfl (hb hby own_dC_0) rfl rfl  k) ?_
  refine X0.getF hx hZ hown (hw _ (List.mem_of_getElem? (i := 29) rfl)) e0 F_packed (hb hby own_dC_1) ?_
  intro T1 X1 e1
  refine own_gs 7 [] (fun t' k => XS.ifnullNo X1.here hx rfl (hb hby own_dC_4) rfl k) ?_
  refine own_gs 8 [(.ref t)] (fun t' k => XS.aloadN X1.here hx rfl (hb hby own_dC_7) rfl rfl  k) ?_
  refine X1.getF hx hZ hown (hw _ (List.mem_of_getElem? (i := 29) rfl)) e1 F_packed (hb hby own_dC_8) ?_
  intro T2 X2 e2
  refine X2.aleno hx hZ e2 A_b (hb hby own_dC_11) ?_
  show own_G p e below s _ _ _ T2 (mkF m 12 #[rv t] [(.int (Int32.ofNat cn))])
  refine own_gs 20 [(.int (Int32.ofNat cn))] (fun t' k => XS.goto X2.here hx rfl (pc0 := 12) (pc' := 20) rfl (hb hby own_dC_12) (by decide) (by decide) k) ?_
  refine X2.retI hx hlk hret (hb hby own_dC_20) ?_ (by decide) (by decide)
  exact ⟨rfl, e2⟩

theorem own_dC_15 : decode prog_10_method_4_code 15 = .ok (.aload_n 0, 1) := by decide +kernel
theorem own_dC_16 : decode prog_10_method_4_code 16 = .ok (.getfield 34, 3) := by decide +kernel
theorem own_dC_19 : decode prog_10_method_4_code 19 = .ok (.arraylength, 1) := by decide +kernel
theorem own_pn_own_rmCB : plainFor (⟨"com/example/load_across_peers/loadacrosspeers/internal/pick/AliasTable", "columns", "()I"⟩ : MethodName) = true := plainFor_of_name (show plainName "com/example/load_across_peers/loadacrosspeers/internal/pick/AliasTable" = true by first | (simp [plainName, overriddenIn]; done) | decide +kernel)
set_option maxRecDepth 65536 in
set_option maxHeartbeats 40000000 in
theorem own_rmCB (l : Launch) (Z : State) (a0 : Array Value) (hw : ∀ d ∈ tables_1, d.before a0 Z = true) (ws : List Jvm.Cond) (h0 : Heap) (n0 : Nat) (Z0 : n0 ≤ h0.size) (t b : Addr) (cn : Nat) (A_b : own_O Z h0 .long b cn own_isJ) (F_packed : Fld Z h0 t "com/example/load_across_peers/loadacrosspeers/internal/pick/AliasTable" "packed" "[J" .null) (F_thr : Fld Z h0 t "com/example/load_across_peers/loadacrosspeers/internal/pick/AliasTable" "thresholds" "[J" (.ref b))  :
    own_C l Z (⟨"com/example/load_across_peers/loadacrosspeers/internal/pick/AliasTable", "columns", "()I"⟩ : MethodName) prog_10_method_4_code 1 (some .int) ws ({ frames := 0, cells := 0, slots := 0, locals := 0 } : Room) #[(.ref t)] h0 (own_Q n0 (fun v h => v = some (.int (Int32.ofNat cn)) ∧ h = h0)) := by
  refine own_met own_pn_own_rmCB #[rv t] (fun m => by first | (simp [entryFrame, mkF, argsToLocals, Value.category]; done) | rfl) ?_
  intro p e s m below meth c s₁ hx hby hml hown hret hlk hZ hnm X0 e0
  replace X0 := own_S.of X0 (n0)
  have hn : n0 ≤ h0.size := Z0
  have zm1 : ((-1) : Int32).toInt = -1 := rfl
  have z0 : (0 : Int32).toInt = 0 := rfl
  have z1 : (1 : Int32).toInt = 1 := rfl
  have z2 : (2 : Int32).toInt = 2 := rfl
  have z3 : (3 : Int32).toInt = 3 := rfl
  have z4 : (4 : Int32).toInt = 4 := rfl
  have z5 : (5 : Int32).toInt = 5 := rfl
  have z6 : (6 : Int32).toInt = 6 := rfl
  have z7 : (7 : Int32).toInt = 7 := rfl
  have z8 : (8 : Int32).toInt = 8 := rfl
  refine own_gs 1 [(.ref t)] (fun t' k => XS.aloadN X0.here hx rfl (hb hby own_dC_0) rfl rfl  k) ?_
  refine X0.getF hx hZ hown (hw _ (List.mem_of_getElem? (i := 29) rfl)) e0 F_packed (hb hby own_dC_1) ?_
  intro T1 X1 e1
  refine own_gs 15 [] (fun t' k => XS.ifnullYes X1.here hx rfl (pc0 := 4) (pc' := 15) rfl (hb hby own_dC_4) rfl (by decide) (by decide) k) ?_
  refine own_gs 16 [(.ref t)] (fun t' k => XS.aloadN X1.here hx rfl (hb hby own_dC_15) rfl rfl  k) ?_
  refine X1.getF hx hZ hown (hw _ (List.mem_of_getElem? (i := 31) rfl)) e1 F_thr (hb hby own_dC_16) ?_
  intro T2 X2 e2
  refine X2.aleno hx hZ e2 A_b (hb hby own_dC_19) ?_
  show own_G p e below s _ _ _ T2 (mkF m 20 #[rv t] [(.int (Int32.ofNat cn))])
  refine X2.retI hx hlk hret (hb hby own_dC_20) ?_ (by decide) (by decide)
  exact ⟨rfl, e2⟩

theorem own_sn_AliasTable_total_shift {Z : State} {a0 : Array Value} (hw : ∀ d ∈ tables_1, d.before a0 Z = true) : Jvm.RoadKit.slotOf Z "com/example/load_across_peers/loadacrosspeers/internal/pick/AliasTable" "total" "J" ≠ Jvm.RoadKit.slotOf Z "com/example/load_across_peers/loadacrosspeers/internal/pick/AliasTable" "shift" "I" := slot_ne (Or.inr (hw _ (List.mem_of_getElem? (i := 27) rfl))) (Or.inr (hw _ (List.mem_of_getElem? (i := 25) rfl))) (by decide) (t := .long) (t' := .int) (by decide) (by decide)
theorem own_sn_AliasTable_packed_shift {Z : State} {a0 : Array Value} (hw : ∀ d ∈ tables_1, d.before a0 Z = true) : Jvm.RoadKit.slotOf Z "com/example/load_across_peers/loadacrosspeers/internal/pick/AliasTable" "packed" "[J" ≠ Jvm.RoadKit.slotOf Z "com/example/load_across_peers/loadacrosspeers/internal/pick/AliasTable" "shift" "I" := slot_ne (Or.inr (hw _ (List.mem_of_getElem? (i := 30) rfl))) (Or.inr (hw _ (List.mem_of_getElem? (i := 25) rfl))) (by decide) (t := (.array .long)) (t' := .int) (by decide) (by decide)
theorem own_sn_AliasTable_thresholds_shift {Z : State} {a0 : Array Value} (hw : ∀ d ∈ tables_1, d.before a0 Z = true) : Jvm.RoadKit.slotOf Z "com/example/load_across_peers/loadacrosspeers/internal/pick/AliasTable" "thresholds" "[J" ≠ Jvm.RoadKit.slotOf Z "com/example/load_across_peers/loadacrosspeers/internal/pick/AliasTable" "shift" "I" := slot_ne (Or.inr (hw _ (List.mem_of_getElem? (i := 32) rfl))) (Or.inr (hw _ (List.mem_of_getElem? (i := 25) rfl))) (by decide) (t := (.array .long)) (t' := .int) (by decide) (by decide)
theorem own_sn_AliasTable_aliases_shift {Z : State} {a0 : Array Value} (hw : ∀ d ∈ tables_1, d.before a0 Z = true) : Jvm.RoadKit.slotOf Z "com/example/load_across_peers/loadacrosspeers/internal/pick/AliasTable" "aliases" "[I" ≠ Jvm.RoadKit.slotOf Z "com/example/load_across_peers/loadacrosspeers/internal/pick/AliasTable" "shift" "I" := slot_ne (Or.inr (hw _ (List.mem_of_getElem? (i := 34) rfl))) (Or.inr (hw _ (List.mem_of_getElem? (i := 25) rfl))) (by decide) (t := (.array .int)) (t' := .int) (by decide) (by decide)
theorem own_sn_AliasTable_shift_total {Z : State} {a0 : Array Value} (hw : ∀ d ∈ tables_1, d.before a0 Z = true) : Jvm.RoadKit.slotOf Z "com/example/load_across_peers/loadacrosspeers/internal/pick/AliasTable" "shift" "I" ≠ Jvm.RoadKit.slotOf Z "com/example/load_across_peers/loadacrosspeers/internal/pick/AliasTable" "total" "J" := slot_ne (Or.inr (hw _ (List.mem_of_getElem? (i := 25) rfl))) (Or.inr (hw _ (List.mem_of_getElem? (i := 27) rfl))) (by decide) (t := .int) (t' := .long) (by decide) (by decide)
theorem own_sn_AliasTable_packed_total {Z : State} {a0 : Array Value} (hw : ∀ d ∈ tables_1, d.before a0 Z = true) : Jvm.RoadKit.slotOf Z "com/example/load_across_peers/loadacrosspeers/internal/pick/AliasTable" "packed" "[J" ≠ Jvm.RoadKit.slotOf Z "com/example/load_across_peers/loadacrosspeers/internal/pick/AliasTable" "total" "J" := slot_ne (Or.inr (hw _ (List.mem_of_getElem? (i := 30) rfl))) (Or.inr (hw _ (List.mem_of_getElem? (i := 27) rfl))) (by decide) (t := (.array .long)) (t' := .long) (by decide) (by decide)
theorem own_sn_AliasTable_thresholds_total {Z : State} {a0 : Array Value} (hw : ∀ d ∈ tables_1, d.before a0 Z = true) : Jvm.RoadKit.slotOf Z "com/example/load_across_peers/loadacrosspeers/internal/pick/AliasTable" "thresholds" "[J" ≠ Jvm.RoadKit.slotOf Z "com/example/load_across_peers/loadacrosspeers/internal/pick/AliasTable" "total" "J" := slot_ne (Or.inr (hw _ (List.mem_of_getElem? (i := 32) rfl))) (Or.inr (hw _ (List.mem_of_getElem? (i := 27) rfl))) (by decide) (t := (.array .long)) (t' := .long) (by decide) (by decide)
theorem own_sn_AliasTable_aliases_total {Z : State} {a0 : Array Value} (hw : ∀ d ∈ tables_1, d.before a0 Z = true) : Jvm.RoadKit.slotOf Z "com/example/load_across_peers/loadacrosspeers/internal/pick/AliasTable" "aliases" "[I" ≠ Jvm.RoadKit.slotOf Z "com/example/load_across_peers/loadacrosspeers/internal/pick/AliasTable" "total" "J" := slot_ne (Or.inr (hw _ (List.mem_of_getElem? (i := 34) rfl))) (Or.inr (hw _ (List.mem_of_getElem? (i := 27) rfl))) (by decide) (t := (.array .int)) (t' := .long) (by decide) (by decide)
theorem own_sn_AliasTable_shift_packed {Z : State} {a0 : Array Value} (hw : ∀ d ∈ tables_1, d.before a0 Z = true) : Jvm.RoadKit.slotOf Z "com/example/load_across_peers/loadacrosspeers/internal/pick/AliasTable" "shift" "I" ≠ Jvm.RoadKit.slotOf Z "com/example/load_across_peers/loadacrosspeers/internal/pick/AliasTable" "packed" "[J" := slot_ne (Or.inr (hw _ (List.mem_of_getElem? (i := 25) rfl))) (Or.inr (hw _ (List.mem_of_getElem? (i := 30) rfl))) (by decide) (t := .int) (t' := (.array .long)) (by decide) (by decide)
theorem own_sn_AliasTable_total_packed {Z : State} {a0 : Array Value} (hw : ∀ d ∈ tables_1, d.before a0 Z = true) : Jvm.RoadKit.slotOf Z "com/example/load_across_peers/loadacrosspeers/internal/pick/AliasTable" "total" "J" ≠ Jvm.RoadKit.slotOf Z "com/example/load_across_peers/loadacrosspeers/internal/pick/AliasTable" "packed" "[J" := slot_ne (Or.inr (hw _ (List.mem_of_getElem? (i := 27) rfl))) (Or.inr (hw _ (List.mem_of_getElem? (i := 30) rfl))) (by decide) (t := .long) (t' := (.array .long)) (by decide) (by decide)
theorem own_sn_AliasTable_thresholds_packed {Z : State} {a0 : Array Value} (hw : ∀ d ∈ tables_1, d.before a0 Z = true) : Jvm.RoadKit.slotOf Z "com/example/load_across_peers/loadacrosspeers/internal/pick/AliasTable" "thresholds" "[J" ≠ Jvm.RoadKit.slotOf Z "com/example/load_across_peers/loadacrosspeers/internal/pick/AliasTable" "packed" "[J" := slot_ne (Or.inr (hw _ (List.mem_of_getElem? (i := 32) rfl))) (Or.inr (hw _ (List.mem_of_getElem? (i := 30) rfl))) (by decide) (t := (.array .long)) (t' := (.array .long)) (by decide) (by decide)
theorem own_sn_AliasTable_aliases_packed {Z : State} {a0 : Array Value} (hw : ∀ d ∈ tables_1, d.before a0 Z = true) : Jvm.RoadKit.slotOf Z "com/example/load_across_peers/loadacrosspeers/internal/pick/AliasTable" "aliases" "[I" ≠ Jvm.RoadKit.slotOf Z "com/example/load_across_peers/loadacrosspeers/internal/pick/AliasTable" "packed" "[J" := slot_ne (Or.inr (hw _ (List.mem_of_getElem? (i := 34) rfl))) (Or.inr (hw _ (List.mem_of_getElem? (i := 30) rfl))) (by decide) (t := (.array .int)) (t' := (.array .long)) (by decide) (by decide)
theorem own_sn_AliasTable_shift_thresholds {Z : State} {a0 : Array Value} (hw : ∀ d ∈ tables_1, d.before a0 Z = true) : Jvm.RoadKit.slotOf Z "com/example/load_across_peers/loadacrosspeers/internal/pick/AliasTable" "shift" "I" ≠ Jvm.RoadKit.slotOf Z "com/example/load_across_peers/loadacrosspeers/internal/pick/AliasTable" "thresholds" "[J" := slot_ne (Or.inr (hw _ (List.mem_of_getElem? (i := 25) rfl))) (Or.inr (hw _ (List.mem_of_getElem? (i := 32) rfl))) (by decide) (t := .int) (t' := (.array .long)) (by decide) (by decide)
theorem own_sn_AliasTable_total_thresholds {Z : State} {a0 : Array Value} (hw : ∀ d ∈ tables_1, d.before a0 Z = true) : Jvm.RoadKit.slotOf Z "com/example/load_across_peers/loadacrosspeers/internal/pick/AliasTable" "total" "J" ≠ Jvm.RoadKit.slotOf Z "com/example/load_across_peers/loadacrosspeers/internal/pick/AliasTable" "thresholds" "[J" := slot_ne (Or.inr (hw _ (List.mem_of_getElem? (i := 27) rfl))) (Or.inr (hw _ (List.mem_of_getElem? (i := 32) rfl))) (by decide) (t := .long) (t' := (.array .long)) (by decide) (by decide)
theorem own_sn_AliasTable_packed_thresholds {Z : State} {a0 : Array Value} (hw : ∀ d ∈ tables_1, d.before a0 Z = true) : Jvm.RoadKit.slotOf Z "com/example/load_across_peers/loadacrosspeers/internal/pick/AliasTable" "packed" "[J" ≠ Jvm.RoadKit.slotOf Z "com/example/load_across_peers/loadacrosspeers/internal/pick/AliasTable" "thresholds" "[J" := slot_ne (Or.inr (hw _ (List.mem_of_getElem? (i := 30) rfl))) (Or.inr (hw _ (List.mem_of_getElem? (i := 32) rfl))) (by decide) (t := (.array .long)) (t' := (.array .long)) (by decide) (by decide)
theorem own_sn_AliasTable_aliases_thresholds {Z : State} {a0 : Array Value} (hw : ∀ d ∈ tables_1, d.before a0 Z = true) : Jvm.RoadKit.slotOf Z "com/example/load_across_peers/loadacrosspeers/internal/pick/AliasTable" "aliases" "[I" ≠ Jvm.RoadKit.slotOf Z "com/example/load_across_peers/loadacrosspeers/internal/pick/AliasTable" "thresholds" "[J" := slot_ne (Or.inr (hw _ (List.mem_of_getElem? (i := 34) rfl))) (Or.inr (hw _ (List.mem_of_getElem? (i := 32) rfl))) (by decide) (t := (.array .int)) (t' := (.array .long)) (by decide) (by decide)
theorem own_sn_AliasTable_shift_aliases {Z : State} {a0 : Array Value} (hw : ∀ d ∈ tables_1, d.before a0 Z = true) : Jvm.RoadKit.slotOf Z "com/example/load_across_peers/loadacrosspeers/internal/pick/AliasTable" "shift" "I" ≠ Jvm.RoadKit.slotOf Z "com/example/load_across_peers/loadacrosspeers/internal/pick/AliasTable" "aliases" "[I" := slot_ne (Or.inr (hw _ (List.mem_of_getElem? (i := 25) rfl))) (Or.inr (hw _ (List.mem_of_getElem? (i := 34) rfl))) (by decide) (t := .int) (t' := (.array .int)) (by decide) (by decide)
theorem own_sn_AliasTable_total_aliases {Z : State} {a0 : Array Value} (hw : ∀ d ∈ tables_1, d.before a0 Z = true) : Jvm.RoadKit.slotOf Z "com/example/load_across_peers/loadacrosspeers/internal/pick/AliasTable" "total" "J" ≠ Jvm.RoadKit.slotOf Z "com/example/load_across_peers/loadacrosspeers/internal/pick/AliasTable" "aliases" "[I" := slot_ne (Or.inr (hw _ (List.mem_of_getElem? (i := 27) rfl))) (Or.inr (hw _ (List.mem_of_getElem? (i := 34) rfl))) (by decide) (t := .long) (t' := (.array .int)) (by decide) (by decide)
theorem own_sn_AliasTable_packed_aliases {Z : State} {a0 : Array Value} (hw : ∀ d ∈ tables_1, d.before a0 Z = true) : Jvm.RoadKit.slotOf Z "com/example/load_across_peers/loadacrosspeers/internal/pick/AliasTable" "packed" "[J" ≠ Jvm.RoadKit.slotOf Z "com/example/load_across_peers/loadacrosspeers/internal/pick/AliasTable" "aliases" "[I" := slot_ne (Or.inr (hw _ (List.mem_of_getElem? (i := 30) rfl))) (Or.inr (hw _ (List.mem_of_getElem? (i := 34) rfl))) (by decide) (t := (.array .long)) (t' := (.array .int)) (by decide) (by decide)
theorem own_sn_AliasTable_thresholds_aliases {Z : State} {a0 : Array Value} (hw : ∀ d ∈ tables_1, d.before a0 Z = true) : Jvm.RoadKit.slotOf Z "com/example/load_across_peers/loadacrosspeers/internal/pick/AliasTable" "thresholds" "[J" ≠ Jvm.RoadKit.slotOf Z "com/example/load_across_peers/loadacrosspeers/internal/pick/AliasTable" "aliases" "[I" := slot_ne (Or.inr (hw _ (List.mem_of_getElem? (i := 32) rfl))) (Or.inr (hw _ (List.mem_of_getElem? (i := 34) rfl))) (by decide) (t := (.array .long)) (t' := (.array .int)) (by decide) (by decide)
theorem own_dI_0 : decode prog_10_method_1_code 0 = .ok (.aload_n 0, 1) := by decide +kernel
theorem own_dI_1 : decode prog_10_method_1_code 1 = .ok (.invokespecial 5, 3) := by decide +kernel
theorem own_dI_4 : decode prog_10_method_1_code 4 = .ok (.aload_n 1, 1) := by decide +kernel
theorem own_dI_5 : decode prog_10_method_1_code 5 = .ok (.arraylength, 1) := by decide +kernel
theorem own_dI_6 : decode prog_10_method_1_code 6 = .ok (.iconst 1, 1) := by decide +kernel
theorem own_dI_7 : decode prog_10_method_1_code 7 = .ok (.if_icmp .gt 7, 3) := by decide +kernel
theorem own_dI_10 : decode prog_10_method_1_code 10 = .ok (.iconst 1, 1) := by decide +kernel
theorem own_dI_11 : decode prog_10_method_1_code 11 = .ok (.goto 12, 3) := by decide +kernel
theorem own_dI_14 : decode prog_10_method_1_code 14 = .ok (.aload_n 1, 1) := by decide +kernel
theorem own_dI_15 : decode prog_10_method_1_code 15 = .ok (.arraylength, 1) := by decide +kernel
theorem own_dI_16 : decode prog_10_method_1_code 16 = .ok (.iconst 1, 1) := by decide +kernel
theorem own_dI_17 : decode prog_10_method_1_code 17 = .ok (.isub, 1) := by decide +kernel
theorem own_dI_18 : decode prog_10_method_1_code 18 = .ok (.invokestatic 11, 3) := by decide +kernel
theorem own_dI_21 : decode prog_10_method_1_code 21 = .ok (.iconst 1, 1) := by decide +kernel
theorem own_dI_22 : decode prog_10_method_1_code 22 = .ok (.ishl, 1) := by decide +kernel
theorem own_dI_23 : decode prog_10_method_1_code 23 = .ok (.istore_n 2, 1) := by decide +kernel
theorem own_dI_24 : decode prog_10_method_1_code 24 = .ok (.iload_n 2, 1) := by decide +kernel
theorem own_dI_25 : decode prog_10_method_1_code 25 = .ok (.newarray .long, 2) := by decide +kernel
theorem own_dI_27 : decode prog_10_method_1_code 27 = .ok (.astore_n 3, 1) := by decide +kernel
theorem own_dI_28 : decode prog_10_method_1_code 28 = .ok (.iload_n 2, 1) := by decide +kernel
theorem own_dI_29 : decode prog_10_method_1_code 29 = .ok (.newarray .int, 2) := by decide +kernel
theorem own_dI_31 : decode prog_10_method_1_code 31 = .ok (.astore 4, 2) := by decide +kernel
theorem own_dI_33 : decode prog_10_method_1_code 33 = .ok (.aload_n 0, 1) := by decide +kernel
theorem own_dI_34 : decode prog_10_method_1_code 34 = .ok (.bipush 64, 2) := by decide +kernel
theorem own_dI_36 : decode prog_10_method_1_code 36 = .ok (.iload_n 2, 1) := by decide +kernel
theorem own_dI_37 : decode prog_10_method_1_code 37 = .ok (.invokestatic 17, 3) := by decide +kernel
theorem own_dI_40 : decode prog_10_method_1_code 40 = .ok (.isub, 1) := by decide +kernel
theorem own_dI_41 : decode prog_10_method_1_code 41 = .ok (.putfield 20, 3) := by decide +kernel
theorem own_dI_44 : decode prog_10_method_1_code 44 = .ok (.lconst 0, 1) := by decide +kernel
theorem own_dI_45 : decode prog_10_method_1_code 45 = .ok (.lstore 5, 2) := by decide +kernel
theorem own_dI_47 : decode prog_10_method_1_code 47 = .ok (.aload_n 1, 1) := by decide +kernel
theorem own_dI_48 : decode prog_10_method_1_code 48 = .ok (.astore 7, 2) := by decide +kernel
theorem own_dI_50 : decode prog_10_method_1_code 50 = .ok (.aload 7, 2) := by decide +kernel
theorem own_dI_52 : decode prog_10_method_1_code 52 = .ok (.arraylength, 1) := by decide +kernel
theorem own_dI_53 : decode prog_10_method_1_code 53 = .ok (.istore 8, 2) := by decide +kernel
theorem own_dI_55 : decode prog_10_method_1_code 55 = .ok (.iconst 0, 1) := by decide +kernel
theorem own_dI_56 : decode prog_10_method_1_code 56 = .ok (.istore 9, 2) := by decide +kernel
theorem own_dI_58 : decode prog_10_method_1_code 58 = .ok (.iload 9, 2) := by decide +kernel
theorem own_dI_60 : decode prog_10_method_1_code 60 = .ok (.iload 8, 2) := by decide +kernel
theorem own_dI_62 : decode prog_10_method_1_code 62 = .ok (.if_icmp .ge 23, 3) := by decide +kernel
theorem own_dI_65 : decode prog_10_method_1_code 65 = .ok (.aload 7, 2) := by decide +kernel
theorem own_dI_67 : decode prog_10_method_1_code 67 = .ok (.iload 9, 2) := by decide +kernel
theorem own_dI_69 : decode prog_10_method_1_code 69 = .ok (.laload, 1) := by decide +kernel
theorem own_dI_70 : decode prog_10_method_1_code 70 = .ok (.lstore 10, 2) := by decide +kernel
theorem own_dI_72 : decode prog_10_method_1_code 72 = .ok (.lload 5, 2) := by decide +kernel
theorem own_dI_74 : decode prog_10_method_1_code 74 = .ok (.lload 10, 2) := by decide +kernel
theorem own_dI_76 : decode prog_10_method_1_code 76 = .ok (.ladd, 1) := by decide +kernel
theorem own_dI_77 : decode prog_10_method_1_code 77 = .ok (.lstore 5, 2) := by decide +kernel
theorem own_dI_79 : decode prog_10_method_1_code 79 = .ok (.iinc 9 1, 3) := by decide +kernel
theorem own_dI_82 : decode prog_10_method_1_code 82 = .ok (.goto (-24), 3) := by decide +kernel
theorem own_dI_85 : decode prog_10_method_1_code 85 = .ok (.aload_n 0, 1) := by decide +kernel
theorem own_dI_86 : decode prog_10_method_1_code 86 = .ok (.lload 5, 2) := by decide +kernel
theorem own_dI_88 : decode prog_10_method_1_code 88 = .ok (.putfield 24, 3) := by decide +kernel
theorem own_dI_91 : decode prog_10_method_1_code 91 = .ok (.iload_n 2, 1) := by decide +kernel
theorem own_dI_92 : decode prog_10_method_1_code 92 = .ok (.newarray .long, 2) := by decide +kernel
theorem own_dI_94 : decode prog_10_method_1_code 94 = .ok (.astore 7, 2) := by decide +kernel
theorem own_dI_96 : decode prog_10_method_1_code 96 = .ok (.iload_n 2, 1) := by decide +kernel
theorem own_dI_97 : decode prog_10_method_1_code 97 = .ok (.newarray .int, 2) := by decide +kernel
theorem own_dI_99 : decode prog_10_method_1_code 99 = .ok (.astore 8, 2) := by decide +kernel
theorem own_dI_101 : decode prog_10_method_1_code 101 = .ok (.iload_n 2, 1) := by decide +kernel
theorem own_dI_102 : decode prog_10_method_1_code 102 = .ok (.newarray .int, 2) := by decide +kernel
theorem own_dI_104 : decode prog_10_method_1_code 104 = .ok (.astore 9, 2) := by decide +kernel
theorem own_dI_106 : decode prog_10_method_1_code 106 = .ok (.iconst 0, 1) := by decide +kernel
theorem own_dI_107 : decode prog_10_method_1_code 107 = .ok (.istore 10, 2) := by decide +kernel
theorem own_dI_109 : decode prog_10_method_1_code 109 = .ok (.iconst 0, 1) := by decide +kernel
theorem own_dI_110 : decode prog_10_method_1_code 110 = .ok (.istore 11, 2) := by decide +kernel
theorem own_dI_112 : decode prog_10_method_1_code 112 = .ok (.iconst 0, 1) := by decide +kernel
theorem own_dI_113 : decode prog_10_method_1_code 113 = .ok (.istore 12, 2) := by decide +kernel
theorem own_dI_115 : decode prog_10_method_1_code 115 = .ok (.iload 12, 2) := by decide +kernel
theorem own_dI_117 : decode prog_10_method_1_code 117 = .ok (.iload_n 2, 1) := by decide +kernel
theorem own_dI_118 : decode prog_10_method_1_code 118 = .ok (.if_icmp .ge 68, 3) := by decide +kernel
theorem own_dI_121 : decode prog_10_method_1_code 121 = .ok (.aload 7, 2) := by decide +kernel
theorem own_dI_123 : decode prog_10_method_1_code 123 = .ok (.iload 12, 2) := by decide +kernel
theorem own_dI_125 : decode prog_10_method_1_code 125 = .ok (.iload 12, 2) := by decide +kernel
theorem own_dI_127 : decode prog_10_method_1_code 127 = .ok (.aload_n 1, 1) := by decide +kernel
theorem own_dI_128 : decode prog_10_method_1_code 128 = .ok (.arraylength, 1) := by decide +kernel
theorem own_dI_129 : decode prog_10_method_1_code 129 = .ok (.if_icmp .ge 13, 3) := by decide +kernel
theorem own_dI_132 : decode prog_10_method_1_code 132 = .ok (.aload_n 1, 1) := by decide +kernel
theorem own_dI_133 : decode prog_10_method_1_code 133 = .ok (.iload 12, 2) := by decide +kernel
theorem own_dI_135 : decode prog_10_method_1_code 135 = .ok (.laload, 1) := by decide +kernel
theorem own_dI_136 : decode prog_10_method_1_code 136 = .ok (.iload_n 2, 1) := by decide +kernel
theorem own_dI_137 : decode prog_10_method_1_code 137 = .ok (.i2l, 1) := by decide +kernel
theorem own_dI_138 : decode prog_10_method_1_code 138 = .ok (.lmul, 1) := by decide +kernel
theorem own_dI_139 : decode prog_10_method_1_code 139 = .ok (.goto 4, 3) := by decide +kernel
theorem own_dI_142 : decode prog_10_method_1_code 142 = .ok (.lconst 0, 1) := by decide +kernel
theorem own_dI_143 : decode prog_10_method_1_code 143 = .ok (.lastore, 1) := by decide +kernel
theorem own_dI_144 : decode prog_10_method_1_code 144 = .ok (.aload 7, 2) := by decide +kernel
theorem own_dI_146 : decode prog_10_method_1_code 146 = .ok (.iload 12, 2) := by decide +kernel
theorem own_dI_148 : decode prog_10_method_1_code 148 = .ok (.laload, 1) := by decide +kernel
theorem own_dI_149 : decode prog_10_method_1_code 149 = .ok (.aload_n 0, 1) := by decide +kernel
theorem own_dI_150 : decode prog_10_method_1_code 150 = .ok (.getfield 24, 3) := by decide +kernel
theorem own_dI_153 : decode prog_10_method_1_code 153 = .ok (.lcmp, 1) := by decide +kernel
theorem own_dI_154 : decode prog_10_method_1_code 154 = .ok (.ifCond .ge 16, 3) := by decide +kernel
theorem own_dI_157 : decode prog_10_method_1_code 157 = .ok (.aload 8, 2) := by decide +kernel
theorem own_dI_159 : decode prog_10_method_1_code 159 = .ok (.iload 10, 2) := by decide +kernel
theorem own_dI_161 : decode prog_10_method_1_code 161 = .ok (.iinc 10 1, 3) := by decide +kernel
theorem own_dI_164 : decode prog_10_method_1_code 164 = .ok (.iload 12, 2) := by decide +kernel
theorem own_dI_166 : decode prog_10_method_1_code 166 = .ok (.iastore, 1) := by decide +kernel
theorem own_dI_167 : decode prog_10_method_1_code 167 = .ok (.goto 13, 3) := by decide +kernel
theorem own_dI_170 : decode prog_10_method_1_code 170 = .ok (.aload 9, 2) := by decide +kernel
theorem own_dI_172 : decode prog_10_method_1_code 172 = .ok (.iload 11, 2) := by decide +kernel
theorem own_dI_174 : decode prog_10_method_1_code 174 = .ok (.iinc 11 1, 3) := by decide +kernel
theorem own_dI_177 : decode prog_10_method_1_code 177 = .ok (.iload 12, 2) := by decide +kernel
theorem own_dI_179 : decode prog_10_method_1_code 179 = .ok (.iastore, 1) := by decide +kernel
theorem own_dI_180 : decode prog_10_method_1_code 180 = .ok (.iinc 12 1, 3) := by decide +kernel
theorem own_dI_183 : decode prog_10_method_1_code 183 = .ok (.goto (-68), 3) := by decide +kernel
theorem own_dI_186 : decode prog_10_method_1_code 186 = .ok (.iload 10, 2) := by decide +kernel
theorem own_dI_188 : decode prog_10_method_1_code 188 = .ok (.ifCond .le 90, 3) := by decide +kernel
theorem own_dI_191 : decode prog_10_method_1_code 191 = .ok (.iload 11, 2) := by decide +kernel
theorem own_dI_193 : decode prog_10_method_1_code 193 = .ok (.ifCond .le 85, 3) := by decide +kernel
theorem own_dI_196 : decode prog_10_method_1_code 196 = .ok (.aload 8, 2) := by decide +kernel
theorem own_dI_198 : decode prog_10_method_1_code 198 = .ok (.iinc 10 (-1), 3) := by decide +kernel
theorem own_dI_201 : decode prog_10_method_1_code 201 = .ok (.iload 10, 2) := by decide +kernel
theorem own_dI_203 : decode prog_10_method_1_code 203 = .ok (.iaload, 1) := by decide +kernel
theorem own_dI_204 : decode prog_10_method_1_code 204 = .ok (.istore 12, 2) := by decide +kernel
theorem own_dI_206 : decode prog_10_method_1_code 206 = .ok (.aload 9, 2) := by decide +kernel
theorem own_dI_208 : decode prog_10_method_1_code 208 = .ok (.iload 11, 2) := by decide +kernel
theorem own_dI_210 : decode prog_10_method_1_code 210 = .ok (.iconst 1, 1) := by decide +kernel
theorem own_dI_211 : decode prog_10_method_1_code 211 = .ok (.isub, 1) := by decide +kernel
theorem own_dI_212 : decode prog_10_method_1_code 212 = .ok (.iaload, 1) := by decide +kernel
theorem own_dI_213 : decode prog_10_method_1_code 213 = .ok (.istore 13, 2) := by decide +kernel
theorem own_dI_215 : decode prog_10_method_1_code 215 = .ok (.aload_n 3, 1) := by decide +kernel
theorem own_dI_216 : decode prog_10_method_1_code 216 = .ok (.iload 12, 2) := by decide +kernel
theorem own_dI_218 : decode prog_10_method_1_code 218 = .ok (.aload 7, 2) := by decide +kernel
theorem own_dI_220 : decode prog_10_method_1_code 220 = .ok (.iload 12, 2) := by decide +kernel
theorem own_dI_222 : decode prog_10_method_1_code 222 = .ok (.laload, 1) := by decide +kernel
theorem own_dI_223 : decode prog_10_method_1_code 223 = .ok (.lastore, 1) := by decide +kernel
theorem own_dI_224 : decode prog_10_method_1_code 224 = .ok (.aload 4, 2) := by decide +kernel
theorem own_dI_226 : decode prog_10_method_1_code 226 = .ok (.iload 12, 2) := by decide +kernel
theorem own_dI_228 : decode prog_10_method_1_code 228 = .ok (.iload 13, 2) := by decide +kernel
theorem own_dI_230 : decode prog_10_method_1_code 230 = .ok (.iastore, 1) := by decide +kernel
theorem own_dI_231 : decode prog_10_method_1_code 231 = .ok (.aload 7, 2) := by decide +kernel
theorem own_dI_233 : decode prog_10_method_1_code 233 = .ok (.iload 13, 2) := by decide +kernel
theorem own_dI_235 : decode prog_10_method_1_code 235 = .ok (.dup2, 1) := by decide +kernel
theorem own_dI_236 : decode prog_10_method_1_code 236 = .ok (.laload, 1) := by decide +kernel
theorem own_dI_237 : decode prog_10_method_1_code 237 = .ok (.aload_n 0, 1) := by decide +kernel
theorem own_dI_238 : decode prog_10_method_1_code 238 = .ok (.getfield 24, 3) := by decide +kernel
theorem own_dI_241 : decode prog_10_method_1_code 241 = .ok (.aload 7, 2) := by decide +kernel
theorem own_dI_243 : decode prog_10_method_1_code 243 = .ok (.iload 12, 2) := by decide +kernel
theorem own_dI_245 : decode prog_10_method_1_code 245 = .ok (.laload, 1) := by decide +kernel
theorem own_dI_246 : decode prog_10_method_1_code 246 = .ok (.lsub, 1) := by decide +kernel
theorem own_dI_247 : decode prog_10_method_1_code 247 = .ok (.lsub, 1) := by decide +kernel
theorem own_dI_248 : decode prog_10_method_1_code 248 = .ok (.lastore, 1) := by decide +kernel
theorem own_dI_249 : decode prog_10_method_1_code 249 = .ok (.aload 7, 2) := by decide +kernel
theorem own_dI_251 : decode prog_10_method_1_code 251 = .ok (.iload 13, 2) := by decide +kernel
theorem own_dI_253 : decode prog_10_method_1_code 253 = .ok (.laload, 1) := by decide +kernel
theorem own_dI_254 : decode prog_10_method_1_code 254 = .ok (.aload_n 0, 1) := by decide +kernel
theorem own_dI_255 : decode prog_10_method_1_code 255 = .ok (.getfield 24, 3) := by decide +kernel
theorem own_dI_258 : decode prog_10_method_1_code 258 = .ok (.lcmp, 1) := by decide +kernel
theorem own_dI_259 : decode prog_10_method_1_code 259 = .ok (.ifCond .ge 16, 3) := by decide +kernel
theorem own_dI_262 : decode prog_10_method_1_code 262 = .ok (.iinc 11 (-1), 3) := by decide +kernel
theorem own_dI_265 : decode prog_10_method_1_code 265 = .ok (.aload 8, 2) := by decide +kernel
theorem own_dI_267 : decode prog_10_method_1_code 267 = .ok (.iload 10, 2) := by decide +kernel
theorem own_dI_269 : decode prog_10_method_1_code 269 = .ok (.iinc 10 1, 3) := by decide +kernel
theorem own_dI_272 : decode prog_10_method_1_code 272 = .ok (.iload 13, 2) := by decide +kernel
theorem own_dI_274 : decode prog_10_method_1_code 274 = .ok (.iastore, 1) := by decide +kernel
theorem own_dI_275 : decode prog_10_method_1_code 275 = .ok (.goto (-89), 3) := by decide +kernel
theorem own_dI_278 : decode prog_10_method_1_code 278 = .ok (.iload 11, 2) := by decide +kernel
theorem own_dI_280 : decode prog_10_method_1_code 280 = .ok (.ifCond .le 23, 3) := by decide +kernel
theorem own_dI_283 : decode prog_10_method_1_code 283 = .ok (.aload 9, 2) := by decide +kernel
theorem own_dI_285 : decode prog_10_method_1_code 285 = .ok (.iinc 11 (-1), 3) := by decide +kernel
theorem own_dI_288 : decode prog_10_method_1_code 288 = .ok (.iload 11, 2) := by decide +kernel
theorem own_dI_290 : decode prog_10_method_1_code 290 = .ok (.iaload, 1) := by decide +kernel
theorem own_dI_291 : decode prog_10_method_1_code 291 = .ok (.istore 12, 2) := by decide +kernel
theorem own_dI_293 : decode prog_10_method_1_code 293 = .ok (.aload 4, 2) := by decide +kernel
theorem own_dI_295 : decode prog_10_method_1_code 295 = .ok (.iload 12, 2) := by decide +kernel
theorem own_dI_297 : decode prog_10_method_1_code 297 = .ok (.iload 12, 2) := by decide +kernel
theorem own_dI_299 : decode prog_10_method_1_code 299 = .ok (.iastore, 1) := by decide +kernel
theorem own_dI_300 : decode prog_10_method_1_code 300 = .ok (.goto (-22), 3) := by decide +kernel
theorem own_dI_303 : decode prog_10_method_1_code 303 = .ok (.aload_n 0, 1) := by decide +kernel
theorem own_dI_304 : decode prog_10_method_1_code 304 = .ok (.getfield 24, 3) := by decide +kernel
theorem own_dI_307 : decode prog_10_method_1_code 307 = .ok (.ldc2_w 28, 3) := by decide +kernel
theorem own_dI_310 : decode prog_10_method_1_code 310 = .ok (.lcmp, 1) := by decide +kernel
theorem own_dI_311 : decode prog_10_method_1_code 311 = .ok (.ifCond .gt 59, 3) := by decide +kernel
theorem own_dI_314 : decode prog_10_method_1_code 314 = .ok (.aload_n 0, 1) := by decide +kernel
theorem own_dI_315 : decode prog_10_method_1_code 315 = .ok (.iload_n 2, 1) := by decide +kernel
theorem own_dI_316 : decode prog_10_method_1_code 316 = .ok (.newarray .long, 2) := by decide +kernel
theorem own_dI_318 : decode prog_10_method_1_code 318 = .ok (.putfield 30, 3) := by decide +kernel
theorem own_dI_321 : decode prog_10_method_1_code 321 = .ok (.iconst 0, 1) := by decide +kernel
theorem own_dI_322 : decode prog_10_method_1_code 322 = .ok (.istore 12, 2) := by decide +kernel
theorem own_dI_324 : decode prog_10_method_1_code 324 = .ok (.iload 12, 2) := by decide +kernel
theorem own_dI_326 : decode prog_10_method_1_code 326 = .ok (.iload_n 2, 1) := by decide +kernel
theorem own_dI_327 : decode prog_10_method_1_code 327 = .ok (.if_icmp .ge 30, 3) := by decide +kernel
theorem own_dI_330 : decode prog_10_method_1_code 330 = .ok (.aload_n 0, 1) := by decide +kernel
theorem own_dI_331 : decode prog_10_method_1_code 331 = .ok (.getfield 30, 3) := by decide +kernel
theorem own_dI_334 : decode prog_10_method_1_code 334 = .ok (.iload 12, 2) := by decide +kernel
theorem own_dI_336 : decode prog_10_method_1_code 336 = .ok (.aload_n 3, 1) := by decide +kernel
theorem own_dI_337 : decode prog_10_method_1_code 337 = .ok (.iload 12, 2) := by decide +kernel
theorem own_dI_339 : decode prog_10_method_1_code 339 = .ok (.laload, 1) := by decide +kernel
theorem own_dI_340 : decode prog_10_method_1_code 340 = .ok (.bipush 31, 2) := by decide +kernel
theorem own_dI_342 : decode prog_10_method_1_code 342 = .ok (.lshl, 1) := by decide +kernel
theorem own_dI_343 : decode prog_10_method_1_code 343 = .ok (.aload 4, 2) := by decide +kernel
theorem own_dI_345 : decode prog_10_method_1_code 345 = .ok (.iload 12, 2) := by decide +kernel
theorem own_dI_347 : decode prog_10_method_1_code 347 = .ok (.iaload, 1) := by decide +kernel
theorem own_dI_348 : decode prog_10_method_1_code 348 = .ok (.i2l, 1) := by decide +kernel
theorem own_dI_349 : decode prog_10_method_1_code 349 = .ok (.lor, 1) := by decide +kernel
theorem own_dI_350 : decode prog_10_method_1_code 350 = .ok (.lastore, 1) := by decide +kernel
theorem own_dI_351 : decode prog_10_method_1_code 351 = .ok (.iinc 12 1, 3) := by decide +kernel
theorem own_dI_354 : decode prog_10_method_1_code 354 = .ok (.goto (-30), 3) := by decide +kernel
theorem own_dI_357 : decode prog_10_method_1_code 357 = .ok (.aload_n 0, 1) := by decide +kernel
theorem own_dI_358 : decode prog_10_method_1_code 358 = .ok (.aconst_null, 1) := by decide +kernel
theorem own_dI_359 : decode prog_10_method_1_code 359 = .ok (.putfield 34, 3) := by decide +kernel
theorem own_dI_362 : decode prog_10_method_1_code 362 = .ok (.aload_n 0, 1) := by decide +kernel
theorem own_dI_363 : decode prog_10_method_1_code 363 = .ok (.aconst_null, 1) := by decide +kernel
theorem own_dI_364 : decode prog_10_method_1_code 364 = .ok (.putfield 37, 3) := by decide +kernel
theorem own_dI_367 : decode prog_10_method_1_code 367 = .ok (.goto 19, 3) := by decide +kernel
theorem own_dI_370 : decode prog_10_method_1_code 370 = .ok (.aload_n 0, 1) := by decide +kernel
theorem own_dI_371 : decode prog_10_method_1_code 371 = .ok (.aconst_null, 1) := by decide +kernel
theorem own_dI_372 : decode prog_10_method_1_code 372 = .ok (.putfield 30, 3) := by decide +kernel
theorem own_dI_375 : decode prog_10_method_1_code 375 = .ok (.aload_n 0, 1) := by decide +kernel
theorem own_dI_376 : decode prog_10_method_1_code 376 = .ok (.aload_n 3, 1) := by decide +kernel
theorem own_dI_377 : decode prog_10_method_1_code 377 = .ok (.putfield 34, 3) := by decide +kernel
theorem own_dI_380 : decode prog_10_method_1_code 380 = .ok (.aload_n 0, 1) := by decide +kernel
theorem own_dI_381 : decode prog_10_method_1_code 381 = .ok (.aload 4, 2) := by decide +kernel
theorem own_dI_383 : decode prog_10_method_1_code 383 = .ok (.putfield 37, 3) := by decide +kernel
theorem own_dI_386 : decode prog_10_method_1_code 386 = .ok (.return_, 1) := by decide +kernel
theorem own_pn_own_rmI : plainFor (⟨"com/example/load_across_peers/loadacrosspeers/internal/pick/AliasTable", "<init>", "([J)V"⟩ : MethodName) = true := plainFor_of_name (show plainName "com/example/load_across_peers/loadacrosspeers/internal/pick/AliasTable" = true by first | (simp [plainName, overriddenIn]; done) | decide +kernel)
set_option maxRecDepth 65536 in
set_option maxHeartbeats 40000000 in
theorem own_rmI (l : Launch) (Z : State) (a0 : Array Value) (hw : ∀ d ∈ tables_1, d.before a0 Z = true) (ws : List Jvm.Cond) (h0 : Heap) (n0 : Nat) (Z0 : n0 ≤ h0.size) (t w : Addr) (g_t : n0 ≤ t) (ne_t_w : t ≠ w) (n : Nat) (nI : Int32) (hnI : nI.toInt = n) (hn1 : 1 ≤ n) (hn9 : n ≤ 9) (cn : Nat) (hcn : (own_colsf nI).toInt = cn) (hc1 : 1 ≤ cn) (hc16 : cn ≤ 16) (hncn : n ≤ cn) (E_t : Exa Z h0 t "com/example/load_across_peers/loadacrosspeers/internal/pick/AliasTable") (A_w : own_O Z h0 .long w n own_isJ) (F_shift : Fld Z h0 t "com/example/load_across_peers/loadacrosspeers/internal/pick/AliasTable" "shift" "I" (.int (0 : Int32))) (F_total : Fld Z h0 t "com/example/load_across_peers/loadacrosspeers/internal/pick/AliasTable" "total" "J" (.long (0 : Int64))) (F_packed : Fld Z h0 t "com/example/load_across_peers/loadacrosspeers/internal/pick/AliasTable" "packed" "[J" .null) (F_thresholds : Fld Z h0 t "com/example/load_across_peers/loadacrosspeers/internal/pick/AliasTable" "thresholds" "[J" .null) (F_aliases : Fld Z h0 t "com/example/load_across_peers/loadacrosspeers/internal/pick/AliasTable" "aliases" "[I" .null)  :
    own_C l Z (⟨"com/example/load_across_peers/loadacrosspeers/internal/pick/AliasTable", "<init>", "([J)V"⟩ : MethodName) prog_10_method_1_code 14 none ws ({ frames := 2, cells := 6, slots := 96, locals := 27 } : Room) #[(.ref t), (.ref w)] h0 (own_Q n0 (fun v h => v = none ∧ n0 ≤ h.size ∧ Exa Z h t "com/example/load_across_peers/loadacrosspeers/internal/pick/AliasTable" ∧ ((∃ b, Fld Z h t "com/example/load_across_peers/loadacrosspeers/internal/pick/AliasTable" "packed" "[J" (.ref b) ∧ own_O Z h .long b cn own_isJ) ∨ (Fld Z h t "com/example/load_across_peers/loadacrosspeers/internal/pick/AliasTable" "packed" "[J" .null ∧ ∃ b, Fld Z h t "com/example/load_across_peers/loadacrosspeers/internal/pick/AliasTable" "thresholds" "[J" (.ref b) ∧ own_O Z h .long b cn own_isJ)))) := by
  refine own_met own_pn_own_rmI #[rv t, rv w, .unset, .unset, .unset, .unset, .unset, .unset, .unset, .unset, .unset, .unset, .unset, .unset] (fun m => by first | (simp [entryFrame, mkF, argsToLocals, Value.category]; done) | rfl) ?_
  intro p e s m below meth c s₁ hx hby hml hown hret hlk hZ hnm X0 e0
  replace X0 := own_S.of X0 (n0)
  have hn : n0 ≤ h0.size := Z0
  have zm1 : ((-1) : Int32).toInt = -1 := rfl
  have z0 : (0 : Int32).toInt = 0 := rfl
  have z1 : (1 : Int32).toInt = 1 := rfl
  have z2 : (2 : Int32).toInt = 2 := rfl
  have z3 : (3 : Int32).toInt = 3 := rfl
  have z4 : (4 : Int32).toInt = 4 := rfl
  have z5 : (5 : Int32).toInt = 5 := rfl
  have z6 : (6 : Int32).toInt = 6 := rfl
  have z7 : (7 : Int32).toInt = 7 := rfl
  have z8 : (8 : Int32).toInt = 8 := rfl
  refine own_gs 1 [(.ref t)] (fun t' k => XS.aloadN X0.here hx rfl (hb hby own_dI_0) rfl rfl  k) ?_
  refine X0.initO hx hZ hown (hw _ (List.mem_of_getElem? (i := 16) rfl)) (hw _ (List.mem_of_getElem? (i := 17) rfl)) (hw _ (List.mem_of_getElem? (i := 18) rfl)) e0 (by rw [hml]; rfl) (hb hby own_dI_1) (by decide) 0 (Nat.le_of_eq rfl) (by decide) ?_
  intro T1 X1 e1
  have JC : ∀ (TJC : State) (XJC : own_S p l e ({ frames := 2, cells := 6, slots := 96, locals := 27 } : Room) s m #[(.ref t), (.ref w)] below meth c n0 TJC 0 0) (eJC : TJC.heap = h0) (cl : Int32), (cl = own_colsf nI) → own_G p e below s (own_Q n0 (fun v h => v = none ∧ n0 ≤ h.size ∧ Exa Z h t "com/example/load_across_peers/loadacrosspeers/internal/pick/AliasTable" ∧ ((∃ b, Fld Z h t "com/example/load_across_peers/loadacrosspeers/internal/pick/AliasTable" "packed" "[J" (.ref b) ∧ own_O Z h .long b cn own_isJ) ∨ (Fld Z h t "com/example/load_across_peers/loadacrosspeers/internal/pick/AliasTable" "packed" "[J" .null ∧ ∃ b, Fld Z h t "com/example/load_across_peers/loadacrosspeers/internal/pick/AliasTable" "thresholds" "[J" (.ref b) ∧ own_O Z h .long b cn own_isJ)))) ({ frames := 2, cells := 6, slots := 96, locals := 27 } : Room).cells ({ frames := 2, cells := 6, slots := 96, locals := 27 } : Room).slots TJC (mkF m 23 #[rv t, rv w, .unset, .unset, .unset, .unset, .unset, .unset, .unset, .unset, .unset, .unset, .unset, .unset] [(.int cl)]) := by
    intro TJC XJC eJC cl hJC
    have hcl : cl.toInt = cn := by rw [hJC]; exact hcn
    refine own_go (mkF m 24 #[rv t, rv w, iv cl, .unset, .unset, .unset, .unset, .unset, .unset, .unset, .unset, .unset, .unset, .unset] []) (fun t' k => XS.istoreN XJC.here hx rfl (hb hby own_dI_23) rfl rfl k) ?_
    refine own_gs 25 [(.int cl)] (fun t' k => XS.iloadN XJC.here hx rfl (hb hby own_dI_24) rfl  k) ?_
    refine XJC.newP hx hZ (hw _ (List.mem_of_getElem? (i := 9) rfl)) eJC cn hcl (hb hby own_dI_25) 16 hc16 (by decide) (by decide) (by decide) ?_
    intro T2 h2 b2 X2 e2 q2 xt2 A_b2
    have g_b2 : n0 ≤ b2 := by rw [q2]; exact hn
    have lt_t_b2 : t < b2 := by rw [q2]; exact E_t.lt
    have lt_w_b2 : w < b2 := by rw [q2]; exact A_w.lt
    replace E_t := E_t.ext xt2
    replace A_w := A_w.ext xt2
    replace F_shift := F_shift.ext xt2
    replace F_total := F_total.ext xt2
    replace F_packed := F_packed.ext xt2
    replace F_thresholds := F_thresholds.ext xt2
    replace F_aliases := F_aliases.ext xt2
    replace hn := Nat.le_trans hn xt2.1
    replace A_b2 : own_O Z h2 .long b2 cn own_isJ := own_O.rep A_b2 ⟨_, rfl⟩
    refine own_go (mkF m 28 #[rv t, rv w, iv cl, rv b2, .unset, .unset, .unset, .unset, .unset, .unset, .unset, .unset, .unset, .unset] []) (fun t' k => XS.astoreN X2.here hx rfl (hb hby own_dI_27) rfl rfl rfl k) ?_
    refine own_gs 29 [(.int cl)] (fun t' k => XS.iloadN X2.here hx rfl (hb hby own_dI_28) rfl  k) ?_
    refine X2.newP hx hZ (hw _ (List.mem_of_getElem? (i := 19) rfl)) e2 cn hcl (hb hby own_dI_29) 16 hc16 (by decide) (by decide) (by decide) ?_
    intro T3 h3 b3 X3 e3 q3 xt3 A_b3
    have g_b3 : n0 ≤ b3 := by rw [q3]; exact hn
    have lt_t_b3 : t < b3 := by rw [q3]; exact E_t.lt
    have lt_w_b3 : w < b3 := by rw [q3]; exact A_w.lt
    have lt_b2_b3 : b2 < b3 := by rw [q3]; exact A_b2.lt
    replace E_t := E_t.ext xt3
    replace A_w := A_w.ext xt3
    replace F_shift := F_shift.ext xt3
    replace F_total := F_total.ext xt3
    replace F_packed := F_packed.ext xt3
    replace F_thresholds := F_thresholds.ext xt3
    replace F_aliases := F_aliases.ext xt3
    replace A_b2 := A_b2.ext xt3
    replace hn := Nat.le_trans hn xt3.1
    replace A_b3 : own_O Z h3 .int b3 cn own_isI := own_O.rep A_b3 ⟨_, rfl⟩
    refine own_go (mkF m 33 #[rv t, rv w, iv cl, rv b2, rv b3, .unset, .unset, .unset, .unset, .unset, .unset, .unset, .unset, .unset] []) (fun t' k => XS.astore X3.here hx rfl (hb hby own_dI_31) rfl rfl rfl k) ?_
    refine own_gs 34 [(.ref t)] (fun t' k => XS.aloadN X3.here hx rfl (hb hby own_dI_33) rfl rfl  k) ?_
    refine own_gs 36 [(.int (64 : Int32)), (.ref t)] (fun t' k => XS.bipush X3.here hx rfl (hb hby own_dI_34) k) ?_
    refine own_gs 37 [(.int cl), (.int (64 : Int32)), (.ref t)] (fun t' k => XS.iloadN X3.here hx rfl (hb hby own_dI_36) rfl  k) ?_
    refine X3.callP hx hZ (y := (⟨"java/lang/Integer", "numberOfTrailingZeros", "(I)I"⟩ : MethodName)) (fr := 0) (lo := 0) (r := (.int (own_ntz cl))) hown (hw _ (List.mem_of_getElem? (i := 20) rfl)) (hw _ (List.mem_of_getElem? (i := 21) rfl)) (hw _ (List.mem_of_getElem? (i := 22) rfl)) (hw _ (List.mem_of_getElem? (i := 23) rfl)) (by decide) e3 [(.int cl)] [(.int (64 : Int32)), (.ref t)] (own_ntzC l Z a0 hw [] h3 cl) 2 (by decide) (by decide) (Nat.le_of_eq rfl) (by decide) (by decide) (by rw [hml]; rfl) (lenOf own_pd0 rfl) rfl (hb hby own_dI_37) ?_
    intro T4 X4 e4
    refine own_gs 41 [(.int ((64 : Int32) - (own_ntz cl))), (.ref t)] (fun t' k => XS.isub X4.here hx rfl (hb hby own_dI_40) rfl k) ?_
    generalize ((64 : Int32) - (own_ntz cl)) = shv
    refine X4.putF hx hZ hown (hw _ (List.mem_of_getElem? (i := 24) rfl)) e4 F_shift E_t g_t (Or.inr ⟨(hw _ (List.mem_of_getElem? (i := 25) rfl)), rfl, hnm⟩) (hw _ (List.mem_of_getElem? (i := 11) rfl)) (ty := .int) (by decide) rfl rfl (hb hby own_dI_41) ?_
    intro T5 h5 X5 e5 W5
    replace E_t := E_t.wr W5
    replace A_w := A_w.other W5 (Ne.symm ne_t_w)
    replace F_shift := F_shift.same W5
    replace F_total := F_total.other W5 (Or.inr (own_sn_AliasTable_total_shift hw))
    replace F_packed := F_packed.other W5 (Or.inr (own_sn_AliasTable_packed_shift hw))
    replace F_thresholds := F_thresholds.other W5 (Or.inr (own_sn_AliasTable_thresholds_shift hw))
    replace F_aliases := F_aliases.other W5 (Or.inr (own_sn_AliasTable_aliases_shift hw))
    replace A_b2 := A_b2.other W5 (Ne.symm (Nat.ne_of_lt lt_t_b2))
    replace A_b3 := A_b3.other W5 (Ne.symm (Nat.ne_of_lt lt_t_b3))
    replace hn := Nat.le_trans hn (Keep.of_wr W5).1
    clear W5 X4 e4
    refine own_gs 45 [(.long (0 : Int64))] (fun t' k => XS.lconst X5.here hx rfl (hb hby own_dI_44) k) ?_
    refine own_go (mkF m 47 #[rv t, rv w, iv cl, rv b2, rv b3, jv (0 : Int64), .second, .unset, .unset, .unset, .unset, .unset, .unset, .unset] []) (fun t' k => XS.lstore X5.here hx rfl (hb hby own_dI_45) rfl rfl k) ?_
    refine own_gs 48 [(.ref w)] (fun t' k => XS.aloadN X5.here hx rfl (hb hby own_dI_47) rfl rfl  k) ?_
    refine own_go (mkF m 50 #[rv t, rv w, iv cl, rv b2, rv b3, jv (0 : Int64), .second, rv w, .unset, .unset, .unset, .unset, .unset, .unset] []) (fun t' k => XS.astore X5.here hx rfl (hb hby own_dI_48) rfl rfl rfl k) ?_
    refine own_gs 52 [(.ref w)] (fun t' k => XS.aload X5.here hx rfl (hb hby own_dI_50) rfl rfl  k) ?_
    refine X5.aleno hx hZ e5 A_w (hb hby own_dI_52) ?_
    rw [own_ofNat hnI]
    show own_G p e below s _ _ _ T5 (mkF m 53 #[rv t, rv w, iv cl, rv b2, rv b3, jv (0 : Int64), .second, rv w, .unset, .unset, .unset, .unset, .unset, .unset] [(.int nI)])
    refine own_go (mkF m 55 #[rv t, rv w, iv cl, rv b2, rv b3, jv (0 : Int64), .second, rv w, iv nI, .unset, .unset, .unset, .unset, .unset] []) (fun t' k => XS.istore X5.here hx rfl (hb hby own_dI_53) rfl rfl k) ?_
    refine own_gs 56 [(.int (0 : Int32))] (fun t' k => XS.iconst X5.here hx rfl (hb hby own_dI_55) k) ?_
    refine own_go (mkF m 58 #[rv t, rv w, iv cl, rv b2, rv b3, jv (0 : Int64), .second, rv w, iv nI, iv (0 : Int32), .unset, .unset, .unset, .unset] []) (fun t' k => XS.istore X5.here hx rfl (hb hby own_dI_56) rfl rfl k) ?_
    refine own_gs 60 [(.int (0 : Int32))] (fun t' k => XS.iload X5.here hx rfl (hb hby own_dI_58) rfl  k) ?_
    refine own_gs 62 [(.int nI), (.int (0 : Int32))] (fun t' k => XS.iload X5.here hx rfl (hb hby own_dI_60) rfl  k) ?_
    refine own_gs 65 [] (fun t' k => XS.icmpNo X5.here hx rfl (hb hby own_dI_62) rfl (tlt (Int32.lt_iff_toInt_lt.mpr (by omega))).2.1 k) ?_
    refine own_gs 67 [(.ref w)] (fun t' k => XS.aload X5.here hx rfl (hb hby own_dI_65) rfl rfl  k) ?_
    refine own_gs 69 [(.int (0 : Int32)), (.ref w)] (fun t' k => XS.iload X5.here hx rfl (hb hby own_dI_67) rfl  k) ?_
    refine X5.ldJo hx hZ e5 A_w 0 (by decide) (by omega) (hb hby own_dI_69) ?_
    rintro _ ⟨y6, rfl⟩
    refine own_go (mkF m 72 #[rv t, rv w, iv cl, rv b2, rv b3, jv (0 : Int64), .second, rv w, iv nI, iv (0 : Int32), jv y6, .second, .unset, .unset] []) (fun t' k => XS.lstore X5.here hx rfl (hb hby own_dI_70) rfl rfl k) ?_
    refine own_gs 74 [(.long (0 : Int64))] (fun t' k => XS.lload X5.here hx rfl (hb hby own_dI_72) rfl  k) ?_
    refine own_gs 76 [(.long y6), (.long (0 : Int64))] (fun t' k => XS.lload X5.here hx rfl (hb hby own_dI_74) rfl  k) ?_
    refine own_gs 77 [(.long ((0 : Int64) + y6))] (fun t' k => XS.ladd X5.here hx rfl (hb hby own_dI_76) rfl k) ?_
    refine own_go (mkF m 79 #[rv t, rv w, iv cl, rv b2, rv b3, jv ((0 : Int64) + y6), .second, rv w, iv nI, iv (0 : Int32), jv y6, .second, .unset, .unset] []) (fun t' k => XS.lstore X5.here hx rfl (hb hby own_dI_77) rfl rfl k) ?_
    refine own_go (mkF m 82 #[rv t, rv w, iv cl, rv b2, rv b3, jv ((0 : Int64) + y6), .second, rv w, iv nI, iv (1 : Int32), jv y6, .second, .unset, .unset] []) (fun t' k => XS.iinc X5.here hx rfl (hb hby own_dI_79) rfl rfl k) ?_
    refine own_gs 58 [] (fun t' k => XS.goto X5.here hx rfl (pc0 := 82) (pc' := 58) rfl (hb hby own_dI_82) (by decide) (by decide) k) ?_
    have LA : ∀ (k : Nat) (TLLA : State) (hLLA : Heap) (sm : Int64) (ix : Int32) (wt : Int64) (XLLA : own_S p l e ({ frames := 2, cells := 6, slots := 96, locals := 27 } : Room) s m #[(.ref t), (.ref w)] below meth c n0 TLLA 2 32) (eLLA : TLLA.heap = hLLA) (hn : n0 ≤ hLLA.size) (E_t : Exa Z hLLA t "com/example/load_across_peers/loadacrosspeers/internal/pick/AliasTable") (A_w : own_O Z hLLA .long w n own_isJ) (F_shift : Fld Z hLLA t "com/example/load_across_peers/loadacrosspeers/internal/pick/AliasTable" "shift" "I" (.int shv)) (F_total : Fld Z hLLA t "com/example/load_across_peers/loadacrosspeers/internal/pick/AliasTable" "total" "J" (.long (0 : Int64))) (F_packed : Fld Z hLLA t "com/example/load_across_peers/loadacrosspeers/internal/pick/AliasTable" "packed" "[J" .null) (F_thresholds : Fld Z hLLA t "com/example/load_across_peers/loadacrosspeers/internal/pick/AliasTable" "thresholds" "[J" .null) (F_aliases : Fld Z hLLA t "com/example/load_across_peers/loadacrosspeers/internal/pick/AliasTable" "aliases" "[I" .null) (A_b2 : own_O Z hLLA .long b2 cn own_isJ) (A_b3 : own_O Z hLLA .int b3 cn own_isI) (iv0 : 0 ≤ ix.toInt) (iv1 : ix.toInt ≤ n) (hk : n - ix.toInt.toNat = k), own_G p e below s (own_Q n0 (fun v h => v = none ∧ n0 ≤ h.size ∧ Exa Z h t "com/example/load_across_peers/loadacrosspeers/internal/pick/AliasTable" ∧ ((∃ b, Fld Z h t "com/example/load_across_peers/loadacrosspeers/internal/pick/AliasTable" "packed" "[J" (.ref b) ∧ own_O Z h .long b cn own_isJ) ∨ (Fld Z h t "com/example/load_across_peers/loadacrosspeers/internal/pick/AliasTable" "packed" "[J" .null ∧ ∃ b, Fld Z h t "com/example/load_across_peers/loadacrosspeers/internal/pick/AliasTable" "thresholds" "[J" (.ref b) ∧ own_O Z h .long b cn own_isJ)))) ({ frames := 2, cells := 6, slots := 96, locals := 27 } : Room).cells ({ frames := 2, cells := 6, slots := 96, locals := 27 } : Room).slots TLLA (mkF m 58 #[rv t, rv w, iv cl, rv b2, rv b3, jv sm, .second, rv w, iv nI, iv ix, jv wt, .second, .unset, .unset] []) := by
      intro k
      induction k using Nat.strongRecOn with
      | _ k ihLA =>
        intro TLLA hLLA sm ix wt XLLA eLLA hn E_t A_w F_shift F_total F_packed F_thresholds F_aliases A_b2 A_b3 iv0 iv1 hk
        refine own_gs 60 [(.int ix)] (fun t' k => XS.iload XLLA.here hx rfl (hb hby own_dI_58) rfl  k) ?_
        refine own_gs 62 [(.int nI), (.int ix)] (fun t' k => XS.iload XLLA.here hx rfl (hb hby own_dI_60) rfl  k) ?_
        by_cases hc62_1 : ix < nI
        · skip
          have hc62_1i := Int32.lt_iff_toInt_lt.mp hc62_1
          refine own_gs 65 [] (fun t' k => XS.icmpNo XLLA.here hx rfl (hb hby own_dI_62) rfl (tlt hc62_1).2.1 k) ?_
          refine own_gs 67 [(.ref w)] (fun t' k => XS.aload XLLA.here hx rfl (hb hby own_dI_65) rfl rfl  k) ?_
          refine own_gs 69 [(.int ix), (.ref w)] (fun t' k => XS.iload XLLA.here hx rfl (hb hby own_dI_67) rfl  k) ?_
          refine XLLA.ldJo hx hZ eLLA A_w (ix).toInt.toNat (Int.toNat_of_nonneg (by omega)).symm (by omega) (hb hby own_dI_69) ?_
          rintro _ ⟨y7, rfl⟩
          refine own_go (mkF m 72 #[rv t, rv w, iv cl, rv b2, rv b3, jv sm, .second, rv w, iv nI, iv ix, jv y7, .second, .unset, .unset] []) (fun t' k => XS.lstore XLLA.here hx rfl (hb hby own_dI_70) rfl rfl k) ?_
          refine own_gs 74 [(.long sm)] (fun t' k => XS.lload XLLA.here hx rfl (hb hby own_dI_72) rfl  k) ?_
          refine own_gs 76 [(.long y7), (.long sm)] (fun t' k => XS.lload XLLA.here hx rfl (hb hby own_dI_74) rfl  k) ?_
          refine own_gs 77 [(.long (sm + y7))] (fun t' k => XS.ladd XLLA.here hx rfl (hb hby own_dI_76) rfl k) ?_
          refine own_go (mkF m 79 #[rv t, rv w, iv cl, rv b2, rv b3, jv (sm + y7), .second, rv w, iv nI, iv ix, jv y7, .second, .unset, .unset] []) (fun t' k => XS.lstore XLLA.here hx rfl (hb hby own_dI_77) rfl rfl k) ?_
          refine own_go (mkF m 82 #[rv t, rv w, iv cl, rv b2, rv b3, jv (sm + y7), .second, rv w, iv nI, iv (ix + (1 : Int32)), jv y7, .second, .unset, .unset] []) (fun t' k => XS.iinc XLLA.here hx rfl (hb hby own_dI_79) rfl rfl k) ?_
          refine own_gs 58 [] (fun t' k => XS.goto XLLA.here hx rfl (pc0 := 82) (pc' := 58) rfl (hb hby own_dI_82) (by decide) (by decide) k) ?_
          have hix2 : ((ix + (1 : Int32))).toInt = ix.toInt + 1 := by rw [Jvm.Kit.i32_add (by omega) (by omega), z1]
          generalize (ix + (1 : Int32)) = ix2 at hix2 ⊢
          exact ihLA _ (by omega) TLLA hLLA ((sm + y7)) (ix2) (y7) (XLLA.more (by decide) (by decide)) eLLA hn E_t A_w F_shift F_total F_packed F_thresholds F_aliases A_b2 A_b3 (by omega) (by omega) rfl
        · skip
          have hc62_1i : ¬ (ix.toInt < nI.toInt) := fun q' => hc62_1 (Int32.lt_iff_toInt_lt.mpr q')
          refine own_gs 85 [] (fun t' k => XS.icmpYes XLLA.here hx rfl (pc0 := 62) (pc' := 85) rfl (hb hby own_dI_62) rfl (flt hc62_1).2.1 (by decide) (by decide) k) ?_
          refine own_gs 86 [(.ref t)] (fun t' k => XS.aloadN XLLA.here hx rfl (hb hby own_dI_85) rfl rfl  k) ?_
          refine own_gs 88 [(.long sm), (.ref t)] (fun t' k => XS.lload XLLA.here hx rfl (hb hby own_dI_86) rfl  k) ?_
          refine XLLA.putF hx hZ hown (hw _ (List.mem_of_getElem? (i := 26) rfl)) eLLA F_total E_t g_t (Or.inr ⟨(hw _ (List.mem_of_getElem? (i := 27) rfl)), rfl, hnm⟩) (hw _ (List.mem_of_getElem? (i := 11) rfl)) (ty := .long) (by decide) rfl rfl (hb hby own_dI_88) ?_
          intro T8 h8 X8 e8 W8
          replace E_t := E_t.wr W8
          replace A_w := A_w.other W8 (Ne.symm ne_t_w)
          replace F_shift := F_shift.other W8 (Or.inr (own_sn_AliasTable_shift_total hw))
          replace F_total := F_total.same W8
          replace F_packed := F_packed.other W8 (Or.inr (own_sn_AliasTable_packed_total hw))
          replace F_thresholds := F_thresholds.other W8 (Or.inr (own_sn_AliasTable_thresholds_total hw))
          replace F_aliases := F_aliases.other W8 (Or.inr (own_sn_AliasTable_aliases_total hw))
          replace A_b2 := A_b2.other W8 (Ne.symm (Nat.ne_of_lt lt_t_b2))
          replace A_b3 := A_b3.other W8 (Ne.symm (Nat.ne_of_lt lt_t_b3))
          replace hn := Nat.le_trans hn (Keep.of_wr W8).1
          clear W8 XLLA eLLA
          refine own_gs 92 [(.int cl)] (fun t' k => XS.iloadN X8.here hx rfl (hb hby own_dI_91) rfl  k) ?_
          refine X8.newP hx hZ (hw _ (List.mem_of_getElem? (i := 9) rfl)) e8 cn hcl (hb hby own_dI_92) 16 hc16 (by decide) (by decide) (by decide) ?_
          intro T9 h9 b9 X9 e9 q9 xt9 A_b9
          have g_b9 : n0 ≤ b9 := by rw [q9]; exact hn
          have lt_t_b9 : t < b9 := by rw [q9]; exact E_t.lt
          have lt_w_b9 : w < b9 := by rw [q9]; exact A_w.lt
          have lt_b2_b9 : b2 < b9 := by rw [q9]; exact A_b2.lt
          have lt_b3_b9 : b3 < b9 := by rw [q9]; exact A_b3.lt
          replace E_t := E_t.ext xt9
          replace A_w := A_w.ext xt9
          replace F_shift := F_shift.ext xt9
          replace F_total := F_total.ext xt9
          replace F_packed := F_packed.ext xt9
          replace F_thresholds := F_thresholds.ext xt9
          replace F_aliases := F_aliases.ext xt9
          replace A_b2 := A_b2.ext xt9
          replace A_b3 := A_b3.ext xt9
          replace hn := Nat.le_trans hn xt9.1
          replace A_b9 : own_O Z h9 .long b9 cn own_isJ := own_O.rep A_b9 ⟨_, rfl⟩
          refine own_go (mkF m 96 #[rv t, rv w, iv cl, rv b2, rv b3, jv sm, .second, rv b9, iv nI, iv ix, jv wt, .second, .unset, .unset] []) (fun t' k => XS.astore X9.here hx rfl (hb hby own_dI_94) rfl rfl rfl k) ?_
          refine own_gs 97 [(.int cl)] (fun t' k => XS.iloadN X9.here hx rfl (hb hby own_dI_96) rfl  k) ?_
          refine X9.newP hx hZ (hw _ (List.mem_of_getElem? (i := 19) rfl)) e9 cn hcl (hb hby own_dI_97) 16 hc16 (by decide) (by decide) (by decide) ?_
          intro T10 h10 b10 X10 e10 q10 xt10 A_b10
          have g_b10 : n0 ≤ b10 := by rw [q10]; exact hn
          have lt_t_b10 : t < b10 := by rw [q10]; exact E_t.lt
          have lt_w_b10 : w < b10 := by rw [q10]; exact A_w.lt
          have lt_b2_b10 : b2 < b10 := by rw [q10]; exact A_b2.lt
          have lt_b3_b10 : b3 < b10 := by rw [q10]; exact A_b3.lt
          have lt_b9_b10 : b9 < b10 := by rw [q10]; exact A_b9.lt
          replace E_t := E_t.ext xt10
          replace A_w := A_w.ext xt10
          replace F_shift := F_shift.ext xt10
          replace F_total := F_total.ext xt10
          replace F_packed := F_packed.ext xt10
          replace F_thresholds := F_thresholds.ext xt10
          replace F_aliases := F_aliases.ext xt10
          replace A_b2 := A_b2.ext xt10
          replace A_b3 := A_b3.ext xt10
          replace A_b9 := A_b9.ext xt10
          replace hn := Nat.le_trans hn xt10.1
          replace A_b10 : own_O Z h10 .int b10 cn (own_below cn) := own_O.rep A_b10 ⟨_, rfl, by decide, by show (0 : Int) < cn; omega⟩
          refine own_go (mkF m 101 #[rv t, rv w, iv cl, rv b2, rv b3, jv sm, .second, rv b9, rv b10, iv ix, jv wt, .second, .unset, .unset] []) (fun t' k => XS.astore X10.here hx rfl (hb hby own_dI_99) rfl rfl rfl k) ?_
          refine own_gs 102 [(.int cl)] (fun t' k => XS.iloadN X10.here hx rfl (hb hby own_dI_101) rfl  k) ?_
          refine X10.newP hx hZ (hw _ (List.mem_of_getElem? (i := 19) rfl)) e10 cn hcl (hb hby own_dI_102) 16 hc16 (by decide) (by decide) (by decide) ?_
          intro T11 h11 b11 X11 e11 q11 xt11 A_b11
          have g_b11 : n0 ≤ b11 := by rw [q11]; exact hn
          have lt_t_b11 : t < b11 := by rw [q11]; exact E_t.lt
          have lt_w_b11 : w < b11 := by rw [q11]; exact A_w.lt
          have lt_b2_b11 : b2 < b11 := by rw [q11]; exact A_b2.lt
          have lt_b3_b11 : b3 < b11 := by rw [q11]; exact A_b3.lt
          have lt_b9_b11 : b9 < b11 := by rw [q11]; exact A_b9.lt
          have lt_b10_b11 : b10 < b11 := by rw [q11]; exact A_b10.lt
          replace E_t := E_t.ext xt11
          replace A_w := A_w.ext xt11
          replace F_shift := F_shift.ext xt11
          replace F_total := F_total.ext xt11
          replace F_packed := F_packed.ext xt11
          replace F_thresholds := F_thresholds.ext xt11
          replace F_aliases := F_aliases.ext xt11
          replace A_b2 := A_b2.ext xt11
          replace A_b3 := A_b3.ext xt11
          replace A_b9 := A_b9.ext xt11
          replace A_b10 := A_b10.ext xt11
          replace hn := Nat.le_trans hn xt11.1
          replace A_b11 : own_O Z h11 .int b11 cn (own_below cn) := own_O.rep A_b11 ⟨_, rfl, by decide, by show (0 : Int) < cn; omega⟩
          refine own_go (mkF m 106 #[rv t, rv w, iv cl, rv b2, rv b3, jv sm, .second, rv b9, rv b10, rv b11, jv wt, .second, .unset, .unset] []) (fun t' k => XS.astore X11.here hx rfl (hb hby own_dI_104) rfl rfl rfl k) ?_
          refine own_gs 107 [(.int (0 : Int32))] (fun t' k => XS.iconst X11.here hx rfl (hb hby own_dI_106) k) ?_
          refine own_go (mkF m 109 #[rv t, rv w, iv cl, rv b2, rv b3, jv sm, .second, rv b9, rv b10, rv b11, iv (0 : Int32), .unset, .unset, .unset] []) (fun t' k => XS.istore X11.here hx rfl (hb hby own_dI_107) rfl rfl k) ?_
          refine own_gs 110 [(.int (0 : Int32))] (fun t' k => XS.iconst X11.here hx rfl (hb hby own_dI_109) k) ?_
          refine own_go (mkF m 112 #[rv t, rv w, iv cl, rv b2, rv b3, jv sm, .second, rv b9, rv b10, rv b11, iv (0 : Int32), iv (0 : Int32), .unset, .unset] []) (fun t' k => XS.istore X11.here hx rfl (hb hby own_dI_110) rfl rfl k) ?_
          refine own_gs 113 [(.int (0 : Int32))] (fun t' k => XS.iconst X11.here hx rfl (hb hby own_dI_112) k) ?_
          refine own_go (mkF m 115 #[rv t, rv w, iv cl, rv b2, rv b3, jv sm, .second, rv b9, rv b10, rv b11, iv (0 : Int32), iv (0 : Int32), iv (0 : Int32), .unset] []) (fun t' k => XS.istore X11.here hx rfl (hb hby own_dI_113) rfl rfl k) ?_
          have LB : ∀ (k : Nat) (TLLB : State) (hLLB : Heap) (u : Int32) (o : Int32) (x : Int32) (XLLB : own_S p l e ({ frames := 2, cells := 6, slots := 96, locals := 27 } : Room) s m #[(.ref t), (.ref w)] below meth c n0 TLLB 5 80) (eLLB : TLLB.heap = hLLB) (hn : n0 ≤ hLLB.size) (E_t : Exa Z hLLB t "com/example/load_across_peers/loadacrosspeers/internal/pick/AliasTable") (A_w : own_O Z hLLB .long w n own_isJ) (F_shift : Fld Z hLLB t "com/example/load_across_peers/loadacrosspeers/internal/pick/AliasTable" "shift" "I" (.int shv)) (F_total : Fld Z hLLB t "com/example/load_across_peers/loadacrosspeers/internal/pick/AliasTable" "total" "J" (.long sm)) (F_packed : Fld Z hLLB t "com/example/load_across_peers/loadacrosspeers/internal/pick/AliasTable" "packed" "[J" .null) (F_thresholds : Fld Z hLLB t "com/example/load_across_peers/loadacrosspeers/internal/pick/AliasTable" "thresholds" "[J" .null) (F_aliases : Fld Z hLLB t "com/example/load_across_peers/loadacrosspeers/internal/pick/AliasTable" "aliases" "[I" .null) (A_b2 : own_O Z hLLB .long b2 cn own_isJ) (A_b3 : own_O Z hLLB .int b3 cn own_isI) (A_b9 : own_O Z hLLB .long b9 cn own_isJ) (A_b10 : own_O Z hLLB .int b10 cn (own_below cn)) (A_b11 : own_O Z hLLB .int b11 cn (own_below cn)) (u0 : 0 ≤ u.toInt) (o0 : 0 ≤ o.toInt) (x1 : x.toInt ≤ cn) (sx : u.toInt + o.toInt = x.toInt) (hk : cn - x.toInt.toNat = k), own_G p e below s (own_Q n0 (fun v h => v = none ∧ n0 ≤ h.size ∧ Exa Z h t "com/example/load_across_peers/loadacrosspeers/internal/pick/AliasTable" ∧ ((∃ b, Fld Z h t "com/example/load_across_peers/loadacrosspeers/internal/pick/AliasTable" "packed" "[J" (.ref b) ∧ own_O Z h .long b cn own_isJ) ∨ (Fld Z h t "com/example/load_across_peers/loadacrosspeers/internal/pick/AliasTable" "packed" "[J" .null ∧ ∃ b, Fld Z h t "com/example/load_across_peers/loadacrosspeers/internal/pick/AliasTable" "thresholds" "[J" (.ref b) ∧ own_O Z h .long b cn own_isJ)))) ({ frames := 2, cells := 6, slots := 96, locals := 27 } : Room).cells ({ frames := 2, cells := 6, slots := 96, locals := 27 } : Room).slots TLLB (mkF m 115 #[rv t, rv w, iv cl, rv b2, rv b3, jv sm, .second, rv b9, rv b10, rv b11, iv u, iv o, iv x, .unset] []) := by
            intro k
            induction k using Nat.strongRecOn with
            | _ k ihLB =>
              intro TLLB hLLB u o x XLLB eLLB hn E_t A_w F_shift F_total F_packed F_thresholds F_aliases A_b2 A_b3 A_b9 A_b10 A_b11 u0 o0 x1 sx hk
              refine own_gs 117 [(.int x)] (fun t' k => XS.iload XLLB.here hx rfl (hb hby own_dI_115) rfl  k) ?_
              refine own_gs 118 [(.int cl), (.int x)] (fun t' k => XS.iloadN XLLB.here hx rfl (hb hby own_dI_117) rfl  k) ?_
              by_cases hc118 : x < cl
              · skip
                have hc118i := Int32.lt_iff_toInt_lt.mp hc118
                refine own_gs 121 [] (fun t' k => XS.icmpNo XLLB.here hx rfl (hb hby own_dI_118) rfl (tlt hc118).2.1 k) ?_
                refine own_gs 123 [(.ref b9)] (fun t' k => XS.aload XLLB.here hx rfl (hb hby own_dI_121) rfl rfl  k) ?_
                refine own_gs 125 [(.int x), (.ref b9)] (fun t' k => XS.iload XLLB.here hx rfl (hb hby own_dI_123) rfl  k) ?_
                have JV : ∀ (yv : Int64), (True) → own_G p e below s (own_Q n0 (fun v h => v = none ∧ n0 ≤ h.size ∧ Exa Z h t "com/example/load_across_peers/loadacrosspeers/internal/pick/AliasTable" ∧ ((∃ b, Fld Z h t "com/example/load_across_peers/loadacrosspeers/internal/pick/AliasTable" "packed" "[J" (.ref b) ∧ own_O Z h .long b cn own_isJ) ∨ (Fld Z h t "com/example/load_across_peers/loadacrosspeers/internal/pick/AliasTable" "packed" "[J" .null ∧ ∃ b, Fld Z h t "com/example/load_across_peers/loadacrosspeers/internal/pick/AliasTable" "thresholds" "[J" (.ref b) ∧ own_O Z h .long b cn own_isJ)))) ({ frames := 2, cells := 6, slots := 96, locals := 27 } : Room).cells ({ frames := 2, cells := 6, slots := 96, locals := 27 } : Room).slots TLLB (mkF m 143 #[rv t, rv w, iv cl, rv b2, rv b3, jv sm, .second, rv b9, rv b10, rv b11, iv u, iv o, iv x, .unset] [(.long yv), (.int x), (.ref b9)]) := by
                  intro yv hJV
                  refine XLLB.stJo hx hZ eLLB A_b9 g_b9 (x).toInt.toNat (Int.toNat_of_nonneg (by omega)).symm (by omega) ⟨_, rfl⟩ (hb hby own_dI_143) ?_
                  intro T12 h12 X12 e12 W12 A12
                  replace A_b9 := A12
                  replace E_t := E_t.wr W12
                  replace A_w := A_w.other W12 (Nat.ne_of_lt lt_w_b9)
                  replace F_shift := F_shift.other W12 (Or.inl (Nat.ne_of_lt lt_t_b9))
                  replace F_total := F_total.other W12 (Or.inl (Nat.ne_of_lt lt_t_b9))
                  replace F_packed := F_packed.other W12 (Or.inl (Nat.ne_of_lt lt_t_b9))
                  replace F_thresholds := F_thresholds.other W12 (Or.inl (Nat.ne_of_lt lt_t_b9))
                  replace F_aliases := F_aliases.other W12 (Or.inl (Nat.ne_of_lt lt_t_b9))
                  replace A_b2 := A_b2.other W12 (Nat.ne_of_lt lt_b2_b9)
                  replace A_b3 := A_b3.other W12 (Nat.ne_of_lt lt_b3_b9)
                  replace A_b10 := A_b10.other W12 (Ne.symm (Nat.ne_of_lt lt_b9_b10))
                  replace A_b11 := A_b11.other W12 (Ne.symm (Nat.ne_of_lt lt_b9_b11))
                  replace hn := Nat.le_trans hn (Keep.of_wr W12).1
                  clear W12 XLLB eLLB
                  refine own_gs 146 [(.ref b9)] (fun t' k => XS.aload X12.here hx rfl (hb hby own_dI_144) rfl rfl  k) ?_
                  refine own_gs 148 [(.int x), (.ref b9)] (fun t' k => XS.iload X12.here hx rfl (hb hby own_dI_146) rfl  k) ?_
                  refine X12.ldJo hx hZ e12 A_b9 (x).toInt.toNat (Int.toNat_of_nonneg (by omega)).symm (by omega) (hb hby own_dI_148) ?_
                  rintro _ ⟨y13, rfl⟩
                  refine own_gs 150 [(.ref t), (.long y13)] (fun t' k => XS.aloadN X12.here hx rfl (hb hby own_dI_149) rfl rfl  k) ?_
                  refine X12.getF hx hZ hown (hw _ (List.mem_of_getElem? (i := 26) rfl)) e12 F_total (hb hby own_dI_150) ?_
                  intro T14 X14 e14
                  refine own_gs 154 [(.int (lcmpW y13 sm))] (fun t' k => XS.lcmp X14.here hx rfl (hb hby own_dI_153) rfl k) ?_
                  by_cases hc154 : y13 < sm
                  · skip
                    refine own_gs 157 [] (fun t' k => XS.ifNo X14.here hx rfl (hb hby own_dI_154) rfl ((if0 _ _).trans (tlt ((lw_lt y13 sm).mpr hc154)).2.1) k) ?_
                    refine own_gs 159 [(.ref b10)] (fun t' k => XS.aload X14.here hx rfl (hb hby own_dI_157) rfl rfl  k) ?_
                    refine own_gs 161 [(.int u), (.ref b10)] (fun t' k => XS.iload X14.here hx rfl (hb hby own_dI_159) rfl  k) ?_
                    refine own_go (mkF m 164 #[rv t, rv w, iv cl, rv b2, rv b3, jv sm, .second, rv b9, rv b10, rv b11, iv (u + (1 : Int32)), iv o, iv x, .unset] [(.int u), (.ref b10)]) (fun t' k => XS.iinc X14.here hx rfl (hb hby own_dI_161) rfl rfl k) ?_
                    refine own_gs 166 [(.int x), (.int u), (.ref b10)] (fun t' k => XS.iload X14.here hx rfl (hb hby own_dI_164) rfl  k) ?_
                    refine X14.stIo hx hZ e14 A_b10 g_b10 (u).toInt.toNat (Int.toNat_of_nonneg (by omega)).symm (by omega) ⟨_, rfl, by omega, by omega⟩ (hb hby own_dI_166) ?_
                    intro T15 h15 X15 e15 W15 A15
                    replace A_b10 := A15
                    replace E_t := E_t.wr W15
                    replace A_w := A_w.other W15 (Nat.ne_of_lt lt_w_b10)
                    replace F_shift := F_shift.other W15 (Or.inl (Nat.ne_of_lt lt_t_b10))
                    replace F_total := F_total.other W15 (Or.inl (Nat.ne_of_lt lt_t_b10))
                    replace F_packed := F_packed.other W15 (Or.inl (Nat.ne_of_lt lt_t_b10))
                    replace F_thresholds := F_thresholds.other W15 (Or.inl (Nat.ne_of_lt lt_t_b10))
                    replace F_aliases := F_aliases.other W15 (Or.inl (Nat.ne_of_lt lt_t_b10))
                    replace A_b2 := A_b2.other W15 (Nat.ne_of_lt lt_b2_b10)
                    replace A_b3 := A_b3.other W15 (Nat.ne_of_lt lt_b3_b10)
                    replace A_b9 := A_b9.other W15 (Nat.ne_of_lt lt_b9_b10)
                    replace A_b11 := A_b11.other W15 (Ne.symm (Nat.ne_of_lt lt_b10_b11))
                    replace hn := Nat.le_trans hn (Keep.of_wr W15).1
                    clear W15 X14 e14
                    refine own_gs 180 [] (fun t' k => XS.goto X15.here hx rfl (pc0 := 167) (pc' := 180) rfl (hb hby own_dI_167) (by decide) (by decide) k) ?_
                    refine own_go (mkF m 183 #[rv t, rv w, iv cl, rv b2, rv b3, jv sm, .second, rv b9, rv b10, rv b11, iv (u + (1 : Int32)), iv o, iv (x + (1 : Int32)), .unset] []) (fun t' k => XS.iinc X15.here hx rfl (hb hby own_dI_180) rfl rfl k) ?_
                    refine own_gs 115 [] (fun t' k => XS.goto X15.here hx rfl (pc0 := 183) (pc' := 115) rfl (hb hby own_dI_183) (by decide) (by decide) k) ?_
                    have hx2 : ((x + (1 : Int32))).toInt = x.toInt + 1 := by rw [Jvm.Kit.i32_add (by omega) (by omega), z1]
                    generalize (x + (1 : Int32)) = x2 at hx2 ⊢
                    have hu2 : ((u + (1 : Int32))).toInt = u.toInt + 1 := by rw [Jvm.Kit.i32_add (by omega) (by omega), z1]
                    generalize (u + (1 : Int32)) = u2 at hu2 ⊢
                    exact ihLB _ (by omega) T15 h15 (u2) (o) (x2) (X15.more (by decide) (by decide)) e15 hn E_t A_w F_shift F_total F_packed F_thresholds F_aliases A_b2 A_b3 A_b9 A_b10 A_b11 (by omega) (by omega) (by omega) (by omega) rfl
                  · skip
                    refine own_gs 170 [] (fun t' k => XS.ifYes X14.here hx rfl (pc0 := 154) (pc' := 170) rfl (hb hby own_dI_154) rfl ((if0 _ _).trans (flt (fun q' => hc154 ((lw_lt y13 sm).mp q'))).2.1) (by decide) (by decide) k) ?_
                    refine own_gs 172 [(.ref b11)] (fun t' k => XS.aload X14.here hx rfl (hb hby own_dI_170) rfl rfl  k) ?_
                    refine own_gs 174 [(.int o), (.ref b11)] (fun t' k => XS.iload X14.here hx rfl (hb hby own_dI_172) rfl  k) ?_
                    refine own_go (mkF m 177 #[rv t, rv w, iv cl, rv b2, rv b3, jv sm, .second, rv b9, rv b10, rv b11, iv u, iv (o + (1 : Int32)), iv x, .unset] [(.int o), (.ref b11)]) (fun t' k => XS.iinc X14.here hx rfl (hb hby own_dI_174) rfl rfl k) ?_
                    refine own_gs 179 [(.int x), (.int o), (.ref b11)] (fun t' k => XS.iload X14.here hx rfl (hb hby own_dI_177) rfl  k) ?_
                    refine X14.stIo hx hZ e14 A_b11 g_b11 (o).toInt.toNat (Int.toNat_of_nonneg (by omega)).symm (by omega) ⟨_, rfl, by omega, by omega⟩ (hb hby own_dI_179) ?_
                    intro T16 h16 X16 e16 W16 A16
                    replace A_b11 := A16
                    replace E_t := E_t.wr W16
                    replace A_w := A_w.other W16 (Nat.ne_of_lt lt_w_b11)
                    replace F_shift := F_shift.other W16 (Or.inl (Nat.ne_of_lt lt_t_b11))
                    replace F_total := F_total.other W16 (Or.inl (Nat.ne_of_lt lt_t_b11))
                    replace F_packed := F_packed.other W16 (Or.inl (Nat.ne_of_lt lt_t_b11))
                    replace F_thresholds := F_thresholds.other W16 (Or.inl (Nat.ne_of_lt lt_t_b11))
                    replace F_aliases := F_aliases.other W16 (Or.inl (Nat.ne_of_lt lt_t_b11))
                    replace A_b2 := A_b2.other W16 (Nat.ne_of_lt lt_b2_b11)
                    replace A_b3 := A_b3.other W16 (Nat.ne_of_lt lt_b3_b11)
                    replace A_b9 := A_b9.other W16 (Nat.ne_of_lt lt_b9_b11)
                    replace A_b10 := A_b10.other W16 (Nat.ne_of_lt lt_b10_b11)
                    replace hn := Nat.le_trans hn (Keep.of_wr W16).1
                    clear W16 X14 e14
                    refine own_go (mkF m 183 #[rv t, rv w, iv cl, rv b2, rv b3, jv sm, .second, rv b9, rv b10, rv b11, iv u, iv (o + (1 : Int32)), iv (x + (1 : Int32)), .unset] []) (fun t' k => XS.iinc X16.here hx rfl (hb hby own_dI_180) rfl rfl k) ?_
                    refine own_gs 115 [] (fun t' k => XS.goto X16.here hx rfl (pc0 := 183) (pc' := 115) rfl (hb hby own_dI_183) (by decide) (by decide) k) ?_
                    have hx2 : ((x + (1 : Int32))).toInt = x.toInt + 1 := by rw [Jvm.Kit.i32_add (by omega) (by omega), z1]
                    generalize (x + (1 : Int32)) = x2 at hx2 ⊢
                    have ho2 : ((o + (1 : Int32))).toInt = o.toInt + 1 := by rw [Jvm.Kit.i32_add (by omega) (by omega), z1]
                    generalize (o + (1 : Int32)) = o2 at ho2 ⊢
                    exact ihLB _ (by omega) T16 h16 (u) (o2) (x2) (X16.more (by decide) (by decide)) e16 hn E_t A_w F_shift F_total F_packed F_thresholds F_aliases A_b2 A_b3 A_b9 A_b10 A_b11 (by omega) (by omega) (by omega) (by omega) rfl
                refine own_gs 127 [(.int x), (.int x), (.ref b9)] (fun t' k => XS.iload XLLB.here hx rfl (hb hby own_dI_125) rfl  k) ?_
                refine own_gs 128 [(.ref w), (.int x), (.int x), (.ref b9)] (fun t' k => XS.aloadN XLLB.here hx rfl (hb hby own_dI_127) rfl rfl  k) ?_
                refine XLLB.aleno hx hZ eLLB A_w (hb hby own_dI_128) ?_
                rw [own_ofNat hnI]
                show own_G p e below s _ _ _ TLLB (mkF m 129 #[rv t, rv w, iv cl, rv b2, rv b3, jv sm, .second, rv b9, rv b10, rv b11, iv u, iv o, iv x, .unset] [(.int nI), (.int x), (.int x), (.ref b9)])
                by_cases hc129 : x < nI
                · skip
                  have hc129i := Int32.lt_iff_toInt_lt.mp hc129
                  refine own_gs 132 [(.int x), (.ref b9)] (fun t' k => XS.icmpNo XLLB.here hx rfl (hb hby own_dI_129) rfl (tlt hc129).2.1 k) ?_
                  refine own_gs 133 [(.ref w), (.int x), (.ref b9)] (fun t' k => XS.aloadN XLLB.here hx rfl (hb hby own_dI_132) rfl rfl  k) ?_
                  refine own_gs 135 [(.int x), (.ref w), (.int x), (.ref b9)] (fun t' k => XS.iload XLLB.here hx rfl (hb hby own_dI_133) rfl  k) ?_
                  refine XLLB.ldJo hx hZ eLLB A_w (x).toInt.toNat (Int.toNat_of_nonneg (by omega)).symm (by omega) (hb hby own_dI_135) ?_
                  rintro _ ⟨y17, rfl⟩
                  refine own_gs 137 [(.int cl), (.long y17), (.int x), (.ref b9)] (fun t' k => XS.iloadN XLLB.here hx rfl (hb hby own_dI_136) rfl  k) ?_
                  refine own_gs 138 [(.long (cl.toInt64)), (.long y17), (.int x), (.ref b9)] (fun t' k => XS.i2l XLLB.here hx rfl (hb hby own_dI_137) rfl k) ?_
                  refine own_gs 139 [(.long (y17 * (cl.toInt64))), (.int x), (.ref b9)] (fun t' k => XS.lmul XLLB.here hx rfl (hb hby own_dI_138) rfl k) ?_
                  refine own_gs 143 [(.long (y17 * (cl.toInt64))), (.int x), (.ref b9)] (fun t' k => XS.goto XLLB.here hx rfl (pc0 := 139) (pc' := 143) rfl (hb hby own_dI_139) (by decide) (by decide) k) ?_
                  exact JV ((y17 * (cl.toInt64))) trivial
                · skip
                  have hc129i : ¬ (x.toInt < nI.toInt) := fun q' => hc129 (Int32.lt_iff_toInt_lt.mpr q')
                  refine own_gs 142 [(.int x), (.ref b9)] (fun t' k => XS.icmpYes XLLB.here hx rfl (pc0 := 129) (pc' := 142) rfl (hb hby own_dI_129) rfl (flt hc129).2.1 (by decide) (by decide) k) ?_
                  refine own_gs 143 [(.long (0 : Int64)), (.int x), (.ref b9)] (fun t' k => XS.lconst XLLB.here hx rfl (hb hby own_dI_142) k) ?_
                  exact JV ((0 : Int64)) trivial
              · skip
                have hc118i : ¬ (x.toInt < cl.toInt) := fun q' => hc118 (Int32.lt_iff_toInt_lt.mpr q')
                refine own_gs 186 [] (fun t' k => XS.icmpYes XLLB.here hx rfl (pc0 := 118) (pc' := 186) rfl (hb hby own_dI_118) rfl (flt hc118).2.1 (by decide) (by decide) k) ?_
                have LD : ∀ (k : Nat) (TLLD : State) (hLLD : Heap) (u : Int32) (o : Int32) (tp : Int32) (s13 : Slot) (XLLD : own_S p l e ({ frames := 2, cells := 6, slots := 96, locals := 27 } : Room) s m #[(.ref t), (.ref w)] below meth c n0 TLLD 5 80) (eLLD : TLLD.heap = hLLD) (hn : n0 ≤ hLLD.size) (E_t : Exa Z hLLD t "com/example/load_across_peers/loadacrosspeers/internal/pick/AliasTable") (A_w : own_O Z hLLD .long w n own_isJ) (F_shift : Fld Z hLLD t "com/example/load_across_peers/loadacrosspeers/internal/pick/AliasTable" "shift" "I" (.int shv)) (F_total : Fld Z hLLD t "com/example/load_across_peers/loadacrosspeers/internal/pick/AliasTable" "total" "J" (.long sm)) (F_packed : Fld Z hLLD t "com/example/load_across_peers/loadacrosspeers/internal/pick/AliasTable" "packed" "[J" .null) (F_thresholds : Fld Z hLLD t "com/example/load_across_peers/loadacrosspeers/internal/pick/AliasTable" "thresholds" "[J" .null) (F_aliases : Fld Z hLLD t "com/example/load_across_peers/loadacrosspeers/internal/pick/AliasTable" "aliases" "[I" .null) (A_b2 : own_O Z hLLD .long b2 cn own_isJ) (A_b3 : own_O Z hLLD .int b3 cn own_isI) (A_b9 : own_O Z hLLD .long b9 cn own_isJ) (A_b10 : own_O Z hLLD .int b10 cn (own_below cn)) (A_b11 : own_O Z hLLD .int b11 cn (own_below cn)) (o0 : 0 ≤ o.toInt) (o1 : o.toInt ≤ cn) (hs13 : s13 = Slot.unset ∨ ∃ w : Value, s13 = Slot.val w ∧ w.category = 1) (hk : o.toInt.toNat = k), own_G p e below s (own_Q n0 (fun v h => v = none ∧ n0 ≤ h.size ∧ Exa Z h t "com/example/load_across_peers/loadacrosspeers/internal/pick/AliasTable" ∧ ((∃ b, Fld Z h t "com/example/load_across_peers/loadacrosspeers/internal/pick/AliasTable" "packed" "[J" (.ref b) ∧ own_O Z h .long b cn own_isJ) ∨ (Fld Z h t "com/example/load_across_peers/loadacrosspeers/internal/pick/AliasTable" "packed" "[J" .null ∧ ∃ b, Fld Z h t "com/example/load_across_peers/loadacrosspeers/internal/pick/AliasTable" "thresholds" "[J" (.ref b) ∧ own_O Z h .long b cn own_isJ)))) ({ frames := 2, cells := 6, slots := 96, locals := 27 } : Room).cells ({ frames := 2, cells := 6, slots := 96, locals := 27 } : Room).slots TLLD (mkF m 278 #[rv t, rv w, iv cl, rv b2, rv b3, jv sm, .second, rv b9, rv b10, rv b11, iv u, iv o, iv tp, s13] []) := by
                  intro k
                  induction k using Nat.strongRecOn with
                  | _ k ihLD =>
                    intro TLLD hLLD u o tp s13 XLLD eLLD hn E_t A_w F_shift F_total F_packed F_thresholds F_aliases A_b2 A_b3 A_b9 A_b10 A_b11 o0 o1 hs13 hk
                    refine own_gs 280 [(.int o)] (fun t' k => XS.iload XLLD.here hx rfl (hb hby own_dI_278) rfl  k) ?_
                    by_cases hc280 : (0 : Int32) < o
                    · skip
                      have hc280i := Int32.lt_iff_toInt_lt.mp hc280
                      refine own_gs 283 [] (fun t' k => XS.ifNo XLLD.here hx rfl (hb hby own_dI_280) rfl ((if0 _ _).trans (tlt hc280).2.2.2) k) ?_
                      refine own_gs 285 [(.ref b11)] (fun t' k => XS.aload XLLD.here hx rfl (hb hby own_dI_283) rfl rfl  k) ?_
                      refine own_go (mkF m 288 #[rv t, rv w, iv cl, rv b2, rv b3, jv sm, .second, rv b9, rv b10, rv b11, iv u, iv (o + (-1 : Int32)), iv tp, s13] [(.ref b11)]) (fun t' k => XS.iinc XLLD.here hx rfl (hb hby own_dI_285) rfl rfl k) ?_
                      have ho2 : ((o + (-1 : Int32))).toInt = o.toInt - 1 := by rw [Jvm.Kit.i32_add (by omega) (by omega), zm1]; omega
                      generalize (o + (-1 : Int32)) = o2 at ho2 ⊢
                      refine own_gs 290 [(.int o2), (.ref b11)] (fun t' k => XS.iload XLLD.here hx rfl (hb hby own_dI_288) rfl  k) ?_
                      refine XLLD.ldIo hx hZ eLLD A_b11 (o2).toInt.toNat (Int.toNat_of_nonneg (by omega)).symm (by omega) (hb hby own_dI_290) ?_
                      rintro _ ⟨y18, rfl, y18a, y18b⟩
                      refine own_go (mkF m 293 #[rv t, rv w, iv cl, rv b2, rv b3, jv sm, .second, rv b9, rv b10, rv b11, iv u, iv o2, iv y18, s13] []) (fun t' k => XS.istore XLLD.here hx rfl (hb hby own_dI_291) rfl rfl k) ?_
                      refine own_gs 295 [(.ref b3)] (fun t' k => XS.aload XLLD.here hx rfl (hb hby own_dI_293) rfl rfl  k) ?_
                      refine own_gs 297 [(.int y18), (.ref b3)] (fun t' k => XS.iload XLLD.here hx rfl (hb hby own_dI_295) rfl  k) ?_
                      refine own_gs 299 [(.int y18), (.int y18), (.ref b3)] (fun t' k => XS.iload XLLD.here hx rfl (hb hby own_dI_297) rfl  k) ?_
                      refine XLLD.stIo hx hZ eLLD A_b3 g_b3 (y18).toInt.toNat (Int.toNat_of_nonneg (by omega)).symm (by omega) ⟨_, rfl⟩ (hb hby own_dI_299) ?_
                      intro T19 h19 X19 e19 W19 A19
                      replace A_b3 := A19
                      replace E_t := E_t.wr W19
                      replace A_w := A_w.other W19 (Nat.ne_of_lt lt_w_b3)
                      replace F_shift := F_shift.other W19 (Or.inl (Nat.ne_of_lt lt_t_b3))
                      replace F_total := F_total.other W19 (Or.inl (Nat.ne_of_lt lt_t_b3))
                      replace F_packed := F_packed.other W19 (Or.inl (Nat.ne_of_lt lt_t_b3))
                      replace F_thresholds := F_thresholds.other W19 (Or.inl (Nat.ne_of_lt lt_t_b3))
                      replace F_aliases := F_aliases.other W19 (Or.inl (Nat.ne_of_lt lt_t_b3))
                      replace A_b2 := A_b2.other W19 (Nat.ne_of_lt lt_b2_b3)
                      replace A_b9 := A_b9.other W19 (Ne.symm (Nat.ne_of_lt lt_b3_b9))
                      replace A_b10 := A_b10.other W19 (Ne.symm (Nat.ne_of_lt lt_b3_b10))
                      replace A_b11 := A_b11.other W19 (Ne.symm (Nat.ne_of_lt lt_b3_b11))
                      replace hn := Nat.le_trans hn (Keep.of_wr W19).1
                      clear W19 XLLD eLLD
                      refine own_gs 278 [] (fun t' k => XS.goto X19.here hx rfl (pc0 := 300) (pc' := 278) rfl (hb hby own_dI_300) (by decide) (by decide) k) ?_
                      exact ihLD _ (by omega) T19 h19 (u) (o2) (y18) (s13) (X19.more (by decide) (by decide)) e19 hn E_t A_w F_shift F_total F_packed F_thresholds F_aliases A_b2 A_b3 A_b9 A_b10 A_b11 (by omega) (by omega) hs13 rfl
                    · skip
                      have hc280i : ¬ ((0 : Int32).toInt < o.toInt) := fun q' => hc280 (Int32.lt_iff_toInt_lt.mpr q')
                      refine own_gs 303 [] (fun t' k => XS.ifYes XLLD.here hx rfl (pc0 := 280) (pc' := 303) rfl (hb hby own_dI_280) rfl ((if0 _ _).trans (flt hc280).2.2.2) (by decide) (by decide) k) ?_
                      refine own_gs 304 [(.ref t)] (fun t' k => XS.aloadN XLLD.here hx rfl (hb hby own_dI_303) rfl rfl  k) ?_
                      refine XLLD.getF hx hZ hown (hw _ (List.mem_of_getElem? (i := 26) rfl)) eLLD F_total (hb hby own_dI_304) ?_
                      intro T20 X20 e20
                      refine own_gs 310 [(.long (8589934592 : Int64)), (.long sm)] (fun t' k => X20.ldc2Long hx hown (mvT hZ (hw _ (List.mem_of_getElem? (i := 28) rfl))) (g := (mkF m 307 #[rv t, rv w, iv cl, rv b2, rv b3, jv sm, .second, rv b9, rv b10, rv b11, iv u, iv o, iv tp, s13] [(.long sm)])) rfl (hb hby own_dI_307) _ k) ?_
                      refine own_gs 311 [(.int (lcmpW sm (8589934592 : Int64)))] (fun t' k => XS.lcmp X20.here hx rfl (hb hby own_dI_310) rfl k) ?_
                      by_cases hc311 : (8589934592 : Int64) < sm
                      · skip
                        refine own_gs 370 [] (fun t' k => XS.ifYes X20.here hx rfl (pc0 := 311) (pc' := 370) rfl (hb hby own_dI_311) rfl ((if0 _ _).trans (tlt ((lw_gt sm (8589934592 : Int64)).mpr hc311)).2.2.1) (by decide) (by decide) k) ?_
                        refine own_gs 371 [(.ref t)] (fun t' k => XS.aloadN X20.here hx rfl (hb hby own_dI_370) rfl rfl  k) ?_
                        refine own_gs 372 [.null, (.ref t)] (fun t' k => XS.aconstNull X20.here hx rfl (hb hby own_dI_371) k) ?_
                        refine X20.putF hx hZ hown (hw _ (List.mem_of_getElem? (i := 29) rfl)) e20 F_packed E_t g_t (Or.inr ⟨(hw _ (List.mem_of_getElem? (i := 30) rfl)), rfl, hnm⟩) (hw _ (List.mem_of_getElem? (i := 11) rfl)) (ty := (.array .long)) (by decide) rfl rfl (hb hby own_dI_372) ?_
                        intro T21 h21 X21 e21 W21
                        replace E_t := E_t.wr W21
                        replace A_w := A_w.other W21 (Ne.symm ne_t_w)
                        replace F_shift := F_shift.other W21 (Or.inr (own_sn_AliasTable_shift_packed hw))
                        replace F_total := F_total.other W21 (Or.inr (own_sn_AliasTable_total_packed hw))
                        replace F_packed := F_packed.same W21
                        replace F_thresholds := F_thresholds.other W21 (Or.inr (own_sn_AliasTable_thresholds_packed hw))
                        replace F_aliases := F_aliases.other W21 (Or.inr (own_sn_AliasTable_aliases_packed hw))
                        replace A_b2 := A_b2.other W21 (Ne.symm (Nat.ne_of_lt lt_t_b2))
                        replace A_b3 := A_b3.other W21 (Ne.symm (Nat.ne_of_lt lt_t_b3))
                        replace A_b9 := A_b9.other W21 (Ne.symm (Nat.ne_of_lt lt_t_b9))
                        replace A_b10 := A_b10.other W21 (Ne.symm (Nat.ne_of_lt lt_t_b10))
                        replace A_b11 := A_b11.other W21 (Ne.symm (Nat.ne_of_lt lt_t_b11))
                        replace hn := Nat.le_trans hn (Keep.of_wr W21).1
                        clear W21 X20 e20
                        refine own_gs 376 [(.ref t)] (fun t' k => XS.aloadN X21.here hx rfl (hb hby own_dI_375) rfl rfl  k) ?_
                        refine own_gs 377 [(.ref b2), (.ref t)] (fun t' k => XS.aloadN X21.here hx rfl (hb hby own_dI_376) rfl rfl  k) ?_
                        refine X21.putF hx hZ hown (hw _ (List.mem_of_getElem? (i := 31) rfl)) e21 F_thresholds E_t g_t (Or.inr ⟨(hw _ (List.mem_of_getElem? (i := 32) rfl)), rfl, hnm⟩) (hw _ (List.mem_of_getElem? (i := 11) rfl)) (ty := (.array .long)) (by decide) rfl rfl (hb hby own_dI_377) ?_
                        intro T22 h22 X22 e22 W22
                        replace E_t := E_t.wr W22
                        replace A_w := A_w.other W22 (Ne.symm ne_t_w)
                        replace F_shift := F_shift.other W22 (Or.inr (own_sn_AliasTable_shift_thresholds hw))
                        replace F_total := F_total.other W22 (Or.inr (own_sn_AliasTable_total_thresholds hw))
                        replace F_packed := F_packed.other W22 (Or.inr (own_sn_AliasTable_packed_thresholds hw))
                        replace F_thresholds := F_thresholds.same W22
                        replace F_aliases := F_aliases.other W22 (Or.inr (own_sn_AliasTable_aliases_thresholds hw))
                        replace A_b2 := A_b2.other W22 (Ne.symm (Nat.ne_of_lt lt_t_b2))
                        replace A_b3 := A_b3.other W22 (Ne.symm (Nat.ne_of_lt lt_t_b3))
                        replace A_b9 := A_b9.other W22 (Ne.symm (Nat.ne_of_lt lt_t_b9))
                        replace A_b10 := A_b10.other W22 (Ne.symm (Nat.ne_of_lt lt_t_b10))
                        replace A_b11 := A_b11.other W22 (Ne.symm (Nat.ne_of_lt lt_t_b11))
                        replace hn := Nat.le_trans hn (Keep.of_wr W22).1
                        clear W22 X21 e21
                        refine own_gs 381 [(.ref t)] (fun t' k => XS.aloadN X22.here hx rfl (hb hby own_dI_380) rfl rfl  k) ?_
                        refine own_gs 383 [(.ref b3), (.ref t)] (fun t' k => XS.aload X22.here hx rfl (hb hby own_dI_381) rfl rfl  k) ?_
                        refine X22.putF hx hZ hown (hw _ (List.mem_of_getElem? (i := 33) rfl)) e22 F_aliases E_t g_t (Or.inr ⟨(hw _ (List.mem_of_getElem? (i := 34) rfl)), rfl, hnm⟩) (hw _ (List.mem_of_getElem? (i := 11) rfl)) (ty := (.array .int)) (by decide) rfl rfl (hb hby own_dI_383) ?_
                        intro T23 h23 X23 e23 W23
                        replace E_t := E_t.wr W23
                        replace A_w := A_w.other W23 (Ne.symm ne_t_w)
                        replace F_shift := F_shift.other W23 (Or.inr (own_sn_AliasTable_shift_aliases hw))
                        replace F_total := F_total.other W23 (Or.inr (own_sn_AliasTable_total_aliases hw))
                        replace F_packed := F_packed.other W23 (Or.inr (own_sn_AliasTable_packed_aliases hw))
                        replace F_thresholds := F_thresholds.other W23 (Or.inr (own_sn_AliasTable_thresholds_aliases hw))
                        replace F_aliases := F_aliases.same W23
                        replace A_b2 := A_b2.other W23 (Ne.symm (Nat.ne_of_lt lt_t_b2))
                        replace A_b3 := A_b3.other W23 (Ne.symm (Nat.ne_of_lt lt_t_b3))
                        replace A_b9 := A_b9.other W23 (Ne.symm (Nat.ne_of_lt lt_t_b9))
                        replace A_b10 := A_b10.other W23 (Ne.symm (Nat.ne_of_lt lt_t_b10))
                        replace A_b11 := A_b11.other W23 (Ne.symm (Nat.ne_of_lt lt_t_b11))
                        replace hn := Nat.le_trans hn (Keep.of_wr W23).1
                        clear W23 X22 e22
                        refine X23.retV hx hlk hret (hb hby own_dI_386) ?_ (by decide) (by decide)
                        rw [e23]
                        exact ⟨rfl, hn, E_t, Or.inr ⟨F_packed, _, F_thresholds, A_b2⟩⟩
                      · skip
                        refine own_gs 314 [] (fun t' k => XS.ifNo X20.here hx rfl (hb hby own_dI_311) rfl ((if0 _ _).trans (flt (fun q' => hc311 ((lw_gt sm (8589934592 : Int64)).mp q'))).2.2.1) k) ?_
                        refine own_gs 315 [(.ref t)] (fun t' k => XS.aloadN X20.here hx rfl (hb hby own_dI_314) rfl rfl  k) ?_
                        refine own_gs 316 [(.int cl), (.ref t)] (fun t' k => XS.iloadN X20.here hx rfl (hb hby own_dI_315) rfl  k) ?_
                        refine X20.newP hx hZ (hw _ (List.mem_of_getElem? (i := 9) rfl)) e20 cn hcl (hb hby own_dI_316) 16 hc16 (by decide) (by decide) (by decide) ?_
                        intro T24 h24 b24 X24 e24 q24 xt24 A_b24
                        have g_b24 : n0 ≤ b24 := by rw [q24]; exact hn
                        have lt_t_b24 : t < b24 := by rw [q24]; exact E_t.lt
                        have lt_w_b24 : w < b24 := by rw [q24]; exact A_w.lt
                        have lt_b2_b24 : b2 < b24 := by rw [q24]; exact A_b2.lt
                        have lt_b3_b24 : b3 < b24 := by rw [q24]; exact A_b3.lt
                        have lt_b9_b24 : b9 < b24 := by rw [q24]; exact A_b9.lt
                        have lt_b10_b24 : b10 < b24 := by rw [q24]; exact A_b10.lt
                        have lt_b11_b24 : b11 < b24 := by rw [q24]; exact A_b11.lt
                        replace E_t := E_t.ext xt24
                        replace A_w := A_w.ext xt24
                        replace F_shift := F_shift.ext xt24
                        replace F_total := F_total.ext xt24
                        replace F_packed := F_packed.ext xt24
                        replace F_thresholds := F_thresholds.ext xt24
                        replace F_aliases := F_aliases.ext xt24
                        replace A_b2 := A_b2.ext xt24
                        replace A_b3 := A_b3.ext xt24
                        replace A_b9 := A_b9.ext xt24
                        replace A_b10 := A_b10.ext xt24
                        replace A_b11 := A_b11.ext xt24
                        replace hn := Nat.le_trans hn xt24.1
                        replace A_b24 : own_O Z h24 .long b24 cn own_isJ := own_O.rep A_b24 ⟨_, rfl⟩
                        refine X24.putF hx hZ hown (hw _ (List.mem_of_getElem? (i := 29) rfl)) e24 F_packed E_t g_t (Or.inr ⟨(hw _ (List.mem_of_getElem? (i := 30) rfl)), rfl, hnm⟩) (hw _ (List.mem_of_getElem? (i := 11) rfl)) (ty := (.array .long)) (by decide) rfl rfl (hb hby own_dI_318) ?_
                        intro T25 h25 X25 e25 W25
                        replace E_t := E_t.wr W25
                        replace A_w := A_w.other W25 (Ne.symm ne_t_w)
                        replace F_shift := F_shift.other W25 (Or.inr (own_sn_AliasTable_shift_packed hw))
                        replace F_total := F_total.other W25 (Or.inr (own_sn_AliasTable_total_packed hw))
                        replace F_packed := F_packed.same W25
                        replace F_thresholds := F_thresholds.other W25 (Or.inr (own_sn_AliasTable_thresholds_packed hw))
                        replace F_aliases := F_aliases.other W25 (Or.inr (own_sn_AliasTable_aliases_packed hw))
                        replace A_b2 := A_b2.other W25 (Ne.symm (Nat.ne_of_lt lt_t_b2))
                        replace A_b3 := A_b3.other W25 (Ne.symm (Nat.ne_of_lt lt_t_b3))
                        replace A_b9 := A_b9.other W25 (Ne.symm (Nat.ne_of_lt lt_t_b9))
                        replace A_b10 := A_b10.other W25 (Ne.symm (Nat.ne_of_lt lt_t_b10))
                        replace A_b11 := A_b11.other W25 (Ne.symm (Nat.ne_of_lt lt_t_b11))
                        replace A_b24 := A_b24.other W25 (Ne.symm (Nat.ne_of_lt lt_t_b24))
                        replace hn := Nat.le_trans hn (Keep.of_wr W25).1
                        clear W25 X24 e24
                        refine own_gs 322 [(.int (0 : Int32))] (fun t' k => XS.iconst X25.here hx rfl (hb hby own_dI_321) k) ?_
                        refine own_go (mkF m 324 #[rv t, rv w, iv cl, rv b2, rv b3, jv sm, .second, rv b9, rv b10, rv b11, iv u, iv o, iv (0 : Int32), s13] []) (fun t' k => XS.istore X25.here hx rfl (hb hby own_dI_322) rfl rfl k) ?_
                        have LE : ∀ (k : Nat) (TLLE : State) (hLLE : Heap) (x : Int32) (XLLE : own_S p l e ({ frames := 2, cells := 6, slots := 96, locals := 27 } : Room) s m #[(.ref t), (.ref w)] below meth c n0 TLLE 6 96) (eLLE : TLLE.heap = hLLE) (hn : n0 ≤ hLLE.size) (E_t : Exa Z hLLE t "com/example/load_across_peers/loadacrosspeers/internal/pick/AliasTable") (A_w : own_O Z hLLE .long w n own_isJ) (F_shift : Fld Z hLLE t "com/example/load_across_peers/loadacrosspeers/internal/pick/AliasTable" "shift" "I" (.int shv)) (F_total : Fld Z hLLE t "com/example/load_across_peers/loadacrosspeers/internal/pick/AliasTable" "total" "J" (.long sm)) (F_packed : Fld Z hLLE t "com/example/load_across_peers/loadacrosspeers/internal/pick/AliasTable" "packed" "[J" (.ref b24)) (F_thresholds : Fld Z hLLE t "com/example/load_across_peers/loadacrosspeers/internal/pick/AliasTable" "thresholds" "[J" .null) (F_aliases : Fld Z hLLE t "com/example/load_across_peers/loadacrosspeers/internal/pick/AliasTable" "aliases" "[I" .null) (A_b2 : own_O Z hLLE .long b2 cn own_isJ) (A_b3 : own_O Z hLLE .int b3 cn own_isI) (A_b9 : own_O Z hLLE .long b9 cn own_isJ) (A_b10 : own_O Z hLLE .int b10 cn (own_below cn)) (A_b11 : own_O Z hLLE .int b11 cn (own_below cn)) (A_b24 : own_O Z hLLE .long b24 cn own_isJ) (x0 : 0 ≤ x.toInt) (x1 : x.toInt ≤ cn) (hk : cn - x.toInt.toNat = k), own_G p e below s (own_Q n0 (fun v h => v = none ∧ n0 ≤ h.size ∧ Exa Z h t "com/example/load_across_peers/loadacrosspeers/internal/pick/AliasTable" ∧ ((∃ b, Fld Z h t "com/example/load_across_peers/loadacrosspeers/internal/pick/AliasTable" "packed" "[J" (.ref b) ∧ own_O Z h .long b cn own_isJ) ∨ (Fld Z h t "com/example/load_across_peers/loadacrosspeers/internal/pick/AliasTable" "packed" "[J" .null ∧ ∃ b, Fld Z h t "com/example/load_across_peers/loadacrosspeers/internal/pick/AliasTable" "thresholds" "[J" (.ref b) ∧ own_O Z h .long b cn own_isJ)))) ({ frames := 2, cells := 6, slots := 96, locals := 27 } : Room).cells ({ frames := 2, cells := 6, slots := 96, locals := 27 } : Room).slots TLLE (mkF m 324 #[rv t, rv w, iv cl, rv b2, rv b3, jv sm, .second, rv b9, rv b10, rv b11, iv u, iv o, iv x, s13] []) := by
                          intro k
                          induction k using Nat.strongRecOn with
                          | _ k ihLE =>
                            intro TLLE hLLE x XLLE eLLE hn E_t A_w F_shift F_total F_packed F_thresholds F_aliases A_b2 A_b3 A_b9 A_b10 A_b11 A_b24 x0 x1 hk
                            refine own_gs 326 [(.int x)] (fun t' k => XS.iload XLLE.here hx rfl (hb hby own_dI_324) rfl  k) ?_
                            refine own_gs 327 [(.int cl), (.int x)] (fun t' k => XS.iloadN XLLE.here hx rfl (hb hby own_dI_326) rfl  k) ?_
                            by_cases hc327 : x < cl
                            · skip
                              have hc327i := Int32.lt_iff_toInt_lt.mp hc327
                              refine own_gs 330 [] (fun t' k => XS.icmpNo XLLE.here hx rfl (hb hby own_dI_327) rfl (tlt hc327).2.1 k) ?_
                              refine own_gs 331 [(.ref t)] (fun t' k => XS.aloadN XLLE.here hx rfl (hb hby own_dI_330) rfl rfl  k) ?_
                              refine XLLE.getF hx hZ hown (hw _ (List.mem_of_getElem? (i := 29) rfl)) eLLE F_packed (hb hby own_dI_331) ?_
                              intro T26 X26 e26
                              refine own_gs 336 [(.int x), (.ref b24)] (fun t' k => XS.iload X26.here hx rfl (hb hby own_dI_334) rfl  k) ?_
                              refine own_gs 337 [(.ref b2), (.int x), (.ref b24)] (fun t' k => XS.aloadN X26.here hx rfl (hb hby own_dI_336) rfl rfl  k) ?_
                              refine own_gs 339 [(.int x), (.ref b2), (.int x), (.ref b24)] (fun t' k => XS.iload X26.here hx rfl (hb hby own_dI_337) rfl  k) ?_
                              refine X26.ldJo hx hZ e26 A_b2 (x).toInt.toNat (Int.toNat_of_nonneg (by omega)).symm (by omega) (hb hby own_dI_339) ?_
                              rintro _ ⟨y27, rfl⟩
                              refine own_gs 342 [(.int (31 : Int32)), (.long y27), (.int x), (.ref b24)] (fun t' k => XS.bipush X26.here hx rfl (hb hby own_dI_340) k) ?_
                              refine own_gs 343 [(.long (y27 <<< ((31 : Int32) &&& 0x3f).toInt64)), (.int x), (.ref b24)] (fun t' k => XS.lshl X26.here hx rfl (hb hby own_dI_342) rfl k) ?_
                              refine own_gs 345 [(.ref b3), (.long (y27 <<< ((31 : Int32) &&& 0x3f).toInt64)), (.int x), (.ref b24)] (fun t' k => XS.aload X26.here hx rfl (hb hby own_dI_343) rfl rfl  k) ?_
                              refine own_gs 347 [(.int x), (.ref b3), (.long (y27 <<< ((31 : Int32) &&& 0x3f).toInt64)), (.int x), (.ref b24)] (fun t' k => XS.iload X26.here hx rfl (hb hby own_dI_345) rfl  k) ?_
                              refine X26.ldIo hx hZ e26 A_b3 (x).toInt.toNat (Int.toNat_of_nonneg (by omega)).symm (by omega) (hb hby own_dI_347) ?_
                              rintro _ ⟨y28, rfl⟩
                              refine own_gs 349 [(.long (y28.toInt64)), (.long (y27 <<< ((31 : Int32) &&& 0x3f).toInt64)), (.int x), (.ref b24)] (fun t' k => XS.i2l X26.here hx rfl (hb hby own_dI_348) rfl k) ?_
                              refine own_gs 350 [(.long ((y27 <<< ((31 : Int32) &&& 0x3f).toInt64) ||| (y28.toInt64))), (.int x), (.ref b24)] (fun t' k => XS.lor X26.here hx rfl (hb hby own_dI_349) rfl k) ?_
                              refine X26.stJo hx hZ e26 A_b24 g_b24 (x).toInt.toNat (Int.toNat_of_nonneg (by omega)).symm (by omega) ⟨_, rfl⟩ (hb hby own_dI_350) ?_
                              intro T29 h29 X29 e29 W29 A29
                              replace A_b24 := A29
                              replace E_t := E_t.wr W29
                              replace A_w := A_w.other W29 (Nat.ne_of_lt lt_w_b24)
                              replace F_shift := F_shift.other W29 (Or.inl (Nat.ne_of_lt lt_t_b24))
                              replace F_total := F_total.other W29 (Or.inl (Nat.ne_of_lt lt_t_b24))
                              replace F_packed := F_packed.other W29 (Or.inl (Nat.ne_of_lt lt_t_b24))
                              replace F_thresholds := F_thresholds.other W29 (Or.inl (Nat.ne_of_lt lt_t_b24))
                              replace F_aliases := F_aliases.other W29 (Or.inl (Nat.ne_of_lt lt_t_b24))
                              replace A_b2 := A_b2.other W29 (Nat.ne_of_lt lt_b2_b24)
                              replace A_b3 := A_b3.other W29 (Nat.ne_of_lt lt_b3_b24)
                              replace A_b9 := A_b9.other W29 (Nat.ne_of_lt lt_b9_b24)
                              replace A_b10 := A_b10.other W29 (Nat.ne_of_lt lt_b10_b24)
                              replace A_b11 := A_b11.other W29 (Nat.ne_of_lt lt_b11_b24)
                              replace hn := Nat.le_trans hn (Keep.of_wr W29).1
                              clear W29 X26 e26
                              refine own_go (mkF m 354 #[rv t, rv w, iv cl, rv b2, rv b3, jv sm, .second, rv b9, rv b10, rv b11, iv u, iv o, iv (x + (1 : Int32)), s13] []) (fun t' k => XS.iinc X29.here hx rfl (hb hby own_dI_351) rfl rfl k) ?_
                              refine own_gs 324 [] (fun t' k => XS.goto X29.here hx rfl (pc0 := 354) (pc' := 324) rfl (hb hby own_dI_354) (by decide) (by decide) k) ?_
                              have hx2 : ((x + (1 : Int32))).toInt = x.toInt + 1 := by rw [Jvm.Kit.i32_add (by omega) (by omega), z1]
                              generalize (x + (1 : Int32)) = x2 at hx2 ⊢
                              exact ihLE _ (by omega) T29 h29 (x2) (X29.more (by decide) (by decide)) e29 hn E_t A_w F_shift F_total F_packed F_thresholds F_aliases A_b2 A_b3 A_b9 A_b10 A_b11 A_b24 (by omega) (by omega) rfl
                            · skip
                              have hc327i : ¬ (x.toInt < cl.toInt) := fun q' => hc327 (Int32.lt_iff_toInt_lt.mpr q')
                              refine own_gs 357 [] (fun t' k => XS.icmpYes XLLE.here hx rfl (pc0 := 327) (pc' := 357) rfl (hb hby own_dI_327) rfl (flt hc327).2.1 (by decide) (by decide) k) ?_
                              refine own_gs 358 [(.ref t)] (fun t' k => XS.aloadN XLLE.here hx rfl (hb hby own_dI_357) rfl rfl  k) ?_
                              refine own_gs 359 [.null, (.ref t)] (fun t' k => XS.aconstNull XLLE.here hx rfl (hb hby own_dI_358) k) ?_
                              refine XLLE.putF hx hZ hown (hw _ (List.mem_of_getElem? (i := 31) rfl)) eLLE F_thresholds E_t g_t (Or.inr ⟨(hw _ (List.mem_of_getElem? (i := 32) rfl)), rfl, hnm⟩) (hw _ (List.mem_of_getElem? (i := 11) rfl)) (ty := (.array .long)) (by decide) rfl rfl (hb hby own_dI_359) ?_
                              intro T30 h30 X30 e30 W30
                              replace E_t := E_t.wr W30
                              replace A_w := A_w.other W30 (Ne.symm ne_t_w)
                              replace F_shift := F_shift.other W30 (Or.inr (own_sn_AliasTable_shift_thresholds hw))
                              replace F_total := F_total.other W30 (Or.inr (own_sn_AliasTable_total_thresholds hw))
                              replace F_packed := F_packed.other W30 (Or.inr (own_sn_AliasTable_packed_thresholds hw))
                              replace F_thresholds := F_thresholds.same W30
                              replace F_aliases := F_aliases.other W30 (Or.inr (own_sn_AliasTable_aliases_thresholds hw))
                              replace A_b2 := A_b2.other W30 (Ne.symm (Nat.ne_of_lt lt_t_b2))
                              replace A_b3 := A_b3.other W30 (Ne.symm (Nat.ne_of_lt lt_t_b3))
                              replace A_b9 := A_b9.other W30 (Ne.symm (Nat.ne_of_lt lt_t_b9))
                              replace A_b10 := A_b10.other W30 (Ne.symm (Nat.ne_of_lt lt_t_b10))
                              replace A_b11 := A_b11.other W30 (Ne.symm (Nat.ne_of_lt lt_t_b11))
                              replace A_b24 := A_b24.other W30 (Ne.symm (Nat.ne_of_lt lt_t_b24))
                              replace hn := Nat.le_trans hn (Keep.of_wr W30).1
                              clear W30 XLLE eLLE
                              refine own_gs 363 [(.ref t)] (fun t' k => XS.aloadN X30.here hx rfl (hb hby own_dI_362) rfl rfl  k) ?_
                              refine own_gs 364 [.null, (.ref t)] (fun t' k => XS.aconstNull X30.here hx rfl (hb hby own_dI_363) k) ?_
                              refine X30.putF hx hZ hown (hw _ (List.mem_of_getElem? (i := 33) rfl)) e30 F_aliases E_t g_t (Or.inr ⟨(hw _ (List.mem_of_getElem? (i := 34) rfl)), rfl, hnm⟩) (hw _ (List.mem_of_getElem? (i := 11) rfl)) (ty := (.array .int)) (by decide) rfl rfl (hb hby own_dI_364) ?_
                              intro T31 h31 X31 e31 W31
                              replace E_t := E_t.wr W31
                              replace A_w := A_w.other W31 (Ne.symm ne_t_w)
                              replace F_shift := F_shift.other W31 (Or.inr (own_sn_AliasTable_shift_aliases hw))
                              replace F_total := F_total.other W31 (Or.inr (own_sn_AliasTable_total_aliases hw))
                              replace F_packed := F_packed.other W31 (Or.inr (own_sn_AliasTable_packed_aliases hw))
                              replace F_thresholds := F_thresholds.other W31 (Or.inr (own_sn_AliasTable_thresholds_aliases hw))
                              replace F_aliases := F_aliases.same W31
                              replace A_b2 := A_b2.other W31 (Ne.symm (Nat.ne_of_lt lt_t_b2))
                              replace A_b3 := A_b3.other W31 (Ne.symm (Nat.ne_of_lt lt_t_b3))
                              replace A_b9 := A_b9.other W31 (Ne.symm (Nat.ne_of_lt lt_t_b9))
                              replace A_b10 := A_b10.other W31 (Ne.symm (Nat.ne_of_lt lt_t_b10))
                              replace A_b11 := A_b11.other W31 (Ne.symm (Nat.ne_of_lt lt_t_b11))
                              replace A_b24 := A_b24.other W31 (Ne.symm (Nat.ne_of_lt lt_t_b24))
                              replace hn := Nat.le_trans hn (Keep.of_wr W31).1
                              clear W31 X30 e30
                              refine own_gs 386 [] (fun t' k => XS.goto X31.here hx rfl (pc0 := 367) (pc' := 386) rfl (hb hby own_dI_367) (by decide) (by decide) k) ?_
                              refine X31.retV hx hlk hret (hb hby own_dI_386) ?_ (by decide) (by decide)
                              rw [e31]
                              exact ⟨rfl, hn, E_t, Or.inl ⟨_, F_packed, A_b24⟩⟩
                        exact LE _ T25 h25 ((0 : Int32)) (X25.more (by decide) (by decide)) e25 hn E_t A_w F_shift F_total F_packed F_thresholds F_aliases A_b2 A_b3 A_b9 A_b10 A_b11 A_b24 (by decide) (by omega) rfl
                have LC : ∀ (k : Nat) (TLLC : State) (hLLC : Heap) (u : Int32) (o : Int32) (tp : Int32) (s13 : Slot) (XLLC : own_S p l e ({ frames := 2, cells := 6, slots := 96, locals := 27 } : Room) s m #[(.ref t), (.ref w)] below meth c n0 TLLC 5 80) (eLLC : TLLC.heap = hLLC) (hn : n0 ≤ hLLC.size) (E_t : Exa Z hLLC t "com/example/load_across_peers/loadacrosspeers/internal/pick/AliasTable") (A_w : own_O Z hLLC .long w n own_isJ) (F_shift : Fld Z hLLC t "com/example/load_across_peers/loadacrosspeers/internal/pick/AliasTable" "shift" "I" (.int shv)) (F_total : Fld Z hLLC t "com/example/load_across_peers/loadacrosspeers/internal/pick/AliasTable" "total" "J" (.long sm)) (F_packed : Fld Z hLLC t "com/example/load_across_peers/loadacrosspeers/internal/pick/AliasTable" "packed" "[J" .null) (F_thresholds : Fld Z hLLC t "com/example/load_across_peers/loadacrosspeers/internal/pick/AliasTable" "thresholds" "[J" .null) (F_aliases : Fld Z hLLC t "com/example/load_across_peers/loadacrosspeers/internal/pick/AliasTable" "aliases" "[I" .null) (A_b2 : own_O Z hLLC .long b2 cn own_isJ) (A_b3 : own_O Z hLLC .int b3 cn own_isI) (A_b9 : own_O Z hLLC .long b9 cn own_isJ) (A_b10 : own_O Z hLLC .int b10 cn (own_below cn)) (A_b11 : own_O Z hLLC .int b11 cn (own_below cn)) (u0 : 0 ≤ u.toInt) (o0 : 0 ≤ o.toInt) (su : u.toInt + o.toInt ≤ cn) (hs13 : s13 = Slot.unset ∨ ∃ w : Value, s13 = Slot.val w ∧ w.category = 1) (hk : (u.toInt + o.toInt).toNat = k), own_G p e below s (own_Q n0 (fun v h => v = none ∧ n0 ≤ h.size ∧ Exa Z h t "com/example/load_across_peers/loadacrosspeers/internal/pick/AliasTable" ∧ ((∃ b, Fld Z h t "com/example/load_across_peers/loadacrosspeers/internal/pick/AliasTable" "packed" "[J" (.ref b) ∧ own_O Z h .long b cn own_isJ) ∨ (Fld Z h t "com/example/load_across_peers/loadacrosspeers/internal/pick/AliasTable" "packed" "[J" .null ∧ ∃ b, Fld Z h t "com/example/load_across_peers/loadacrosspeers/internal/pick/AliasTable" "thresholds" "[J" (.ref b) ∧ own_O Z h .long b cn own_isJ)))) ({ frames := 2, cells := 6, slots := 96, locals := 27 } : Room).cells ({ frames := 2, cells := 6, slots := 96, locals := 27 } : Room).slots TLLC (mkF m 186 #[rv t, rv w, iv cl, rv b2, rv b3, jv sm, .second, rv b9, rv b10, rv b11, iv u, iv o, iv tp, s13] []) := by
                  intro k
                  induction k using Nat.strongRecOn with
                  | _ k ihLC =>
                    intro TLLC hLLC u o tp s13 XLLC eLLC hn E_t A_w F_shift F_total F_packed F_thresholds F_aliases A_b2 A_b3 A_b9 A_b10 A_b11 u0 o0 su hs13 hk
                    refine own_gs 188 [(.int u)] (fun t' k => XS.iload XLLC.here hx rfl (hb hby own_dI_186) rfl  k) ?_
                    by_cases hc188 : (0 : Int32) < u
                    · skip
                      have hc188i := Int32.lt_iff_toInt_lt.mp hc188
                      refine own_gs 191 [] (fun t' k => XS.ifNo XLLC.here hx rfl (hb hby own_dI_188) rfl ((if0 _ _).trans (tlt hc188).2.2.2) k) ?_
                      refine own_gs 193 [(.int o)] (fun t' k => XS.iload XLLC.here hx rfl (hb hby own_dI_191) rfl  k) ?_
                      by_cases hc193 : (0 : Int32) < o
                      · skip
                        have hc193i := Int32.lt_iff_toInt_lt.mp hc193
                        refine own_gs 196 [] (fun t' k => XS.ifNo XLLC.here hx rfl (hb hby own_dI_193) rfl ((if0 _ _).trans (tlt hc193).2.2.2) k) ?_
                        refine own_gs 198 [(.ref b10)] (fun t' k => XS.aload XLLC.here hx rfl (hb hby own_dI_196) rfl rfl  k) ?_
                        refine own_go (mkF m 201 #[rv t, rv w, iv cl, rv b2, rv b3, jv sm, .second, rv b9, rv b10, rv b11, iv (u + (-1 : Int32)), iv o, iv tp, s13] [(.ref b10)]) (fun t' k => XS.iinc XLLC.here hx rfl (hb hby own_dI_198) rfl rfl k) ?_
                        have hu2 : ((u + (-1 : Int32))).toInt = u.toInt - 1 := by rw [Jvm.Kit.i32_add (by omega) (by omega), zm1]; omega
                        generalize (u + (-1 : Int32)) = u2 at hu2 ⊢
                        refine own_gs 203 [(.int u2), (.ref b10)] (fun t' k => XS.iload XLLC.here hx rfl (hb hby own_dI_201) rfl  k) ?_
                        refine XLLC.ldIo hx hZ eLLC A_b10 (u2).toInt.toNat (Int.toNat_of_nonneg (by omega)).symm (by omega) (hb hby own_dI_203) ?_
                        rintro _ ⟨y32, rfl, y32a, y32b⟩
                        refine own_go (mkF m 206 #[rv t, rv w, iv cl, rv b2, rv b3, jv sm, .second, rv b9, rv b10, rv b11, iv u2, iv o, iv y32, s13] []) (fun t' k => XS.istore XLLC.here hx rfl (hb hby own_dI_204) rfl rfl k) ?_
                        refine own_gs 208 [(.ref b11)] (fun t' k => XS.aload XLLC.here hx rfl (hb hby own_dI_206) rfl rfl  k) ?_
                        refine own_gs 210 [(.int o), (.ref b11)] (fun t' k => XS.iload XLLC.here hx rfl (hb hby own_dI_208) rfl  k) ?_
                        refine own_gs 211 [(.int (1 : Int32)), (.int o), (.ref b11)] (fun t' k => XS.iconst XLLC.here hx rfl (hb hby own_dI_210) k) ?_
                        refine own_gs 212 [(.int (o - (1 : Int32))), (.ref b11)] (fun t' k => XS.isub XLLC.here hx rfl (hb hby own_dI_211) rfl k) ?_
                        have ho2 : ((o - (1 : Int32))).toInt = o.toInt - 1 := by rw [Jvm.Kit.i32_sub (by omega) (by omega), z1]
                        generalize (o - (1 : Int32)) = o2 at ho2 ⊢
                        refine XLLC.ldIo hx hZ eLLC A_b11 (o2).toInt.toNat (Int.toNat_of_nonneg (by omega)).symm (by omega) (hb hby own_dI_212) ?_
                        rintro _ ⟨y33, rfl, y33a, y33b⟩
                        refine own_go (mkF m 215 #[rv t, rv w, iv cl, rv b2, rv b3, jv sm, .second, rv b9, rv b10, rv b11, iv u2, iv o, iv y32, iv y33] []) (fun t' k => XS.istoreS XLLC.here hx rfl (hb hby own_dI_213) rfl (o := s13) rfl hs13 k) ?_
                        refine own_gs 216 [(.ref b2)] (fun t' k => XS.aloadN XLLC.here hx rfl (hb hby own_dI_215) rfl rfl  k) ?_
                        refine own_gs 218 [(.int y32), (.ref b2)] (fun t' k => XS.iload XLLC.here hx rfl (hb hby own_dI_216) rfl  k) ?_
                        refine own_gs 220 [(.ref b9), (.int y32), (.ref b2)] (fun t' k => XS.aload XLLC.here hx rfl (hb hby own_dI_218) rfl rfl  k) ?_
                        refine own_gs 222 [(.int y32), (.ref b9), (.int y32), (.ref b2)] (fun t' k => XS.iload XLLC.here hx rfl (hb hby own_dI_220) rfl  k) ?_
                        refine XLLC.ldJo hx hZ eLLC A_b9 (y32).toInt.toNat (Int.toNat_of_nonneg (by omega)).symm (by omega) (hb hby own_dI_222) ?_
                        rintro _ ⟨y34, rfl⟩
                        refine XLLC.stJo hx hZ eLLC A_b2 g_b2 (y32).toInt.toNat (Int.toNat_of_nonneg (by omega)).symm (by omega) ⟨_, rfl⟩ (hb hby own_dI_223) ?_
                        intro T35 h35 X35 e35 W35 A35
                        replace A_b2 := A35
                        replace E_t := E_t.wr W35
                        replace A_w := A_w.other W35 (Nat.ne_of_lt lt_w_b2)
                        replace F_shift := F_shift.other W35 (Or.inl (Nat.ne_of_lt lt_t_b2))
                        replace F_total := F_total.other W35 (Or.inl (Nat.ne_of_lt lt_t_b2))
                        replace F_packed := F_packed.other W35 (Or.inl (Nat.ne_of_lt lt_t_b2))
                        replace F_thresholds := F_thresholds.other W35 (Or.inl (Nat.ne_of_lt lt_t_b2))
                        replace F_aliases := F_aliases.other W35 (Or.inl (Nat.ne_of_lt lt_t_b2))
                        replace A_b3 := A_b3.other W35 (Ne.symm (Nat.ne_of_lt lt_b2_b3))
                        replace A_b9 := A_b9.other W35 (Ne.symm (Nat.ne_of_lt lt_b2_b9))
                        replace A_b10 := A_b10.other W35 (Ne.symm (Nat.ne_of_lt lt_b2_b10))
                        replace A_b11 := A_b11.other W35 (Ne.symm (Nat.ne_of_lt lt_b2_b11))
                        replace hn := Nat.le_trans hn (Keep.of_wr W35).1
                        clear W35 XLLC eLLC
                        refine own_gs 226 [(.ref b3)] (fun t' k => XS.aload X35.here hx rfl (hb hby own_dI_224) rfl rfl  k) ?_
                        refine own_gs 228 [(.int y32), (.ref b3)] (fun t' k => XS.iload X35.here hx rfl (hb hby own_dI_226) rfl  k) ?_
                        refine own_gs 230 [(.int y33), (.int y32), (.ref b3)] (fun t' k => XS.iload X35.here hx rfl (hb hby own_dI_228) rfl  k) ?_
                        refine X35.stIo hx hZ e35 A_b3 g_b3 (y32).toInt.toNat (Int.toNat_of_nonneg (by omega)).symm (by omega) ⟨_, rfl⟩ (hb hby own_dI_230) ?_
                        intro T36 h36 X36 e36 W36 A36
                        replace A_b3 := A36
                        replace E_t := E_t.wr W36
                        replace A_w := A_w.other W36 (Nat.ne_of_lt lt_w_b3)
                        replace F_shift := F_shift.other W36 (Or.inl (Nat.ne_of_lt lt_t_b3))
                        replace F_total := F_total.other W36 (Or.inl (Nat.ne_of_lt lt_t_b3))
                        replace F_packed := F_packed.other W36 (Or.inl (Nat.ne_of_lt lt_t_b3))
                        replace F_thresholds := F_thresholds.other W36 (Or.inl (Nat.ne_of_lt lt_t_b3))
                        replace F_aliases := F_aliases.other W36 (Or.inl (Nat.ne_of_lt lt_t_b3))
                        replace A_b2 := A_b2.other W36 (Nat.ne_of_lt lt_b2_b3)
                        replace A_b9 := A_b9.other W36 (Ne.symm (Nat.ne_of_lt lt_b3_b9))
                        replace A_b10 := A_b10.other W36 (Ne.symm (Nat.ne_of_lt lt_b3_b10))
                        replace A_b11 := A_b11.other W36 (Ne.symm (Nat.ne_of_lt lt_b3_b11))
                        replace hn := Nat.le_trans hn (Keep.of_wr W36).1
                        clear W36 X35 e35
                        refine own_gs 233 [(.ref b9)] (fun t' k => XS.aload X36.here hx rfl (hb hby own_dI_231) rfl rfl  k) ?_
                        refine own_gs 235 [(.int y33), (.ref b9)] (fun t' k => XS.iload X36.here hx rfl (hb hby own_dI_233) rfl  k) ?_
                        refine own_gs 236 [(.int y33), (.ref b9), (.int y33), (.ref b9)] (fun t' k => Jvm.Free.XT.dup2 X36.here hx rfl (hb hby own_dI_235) rfl rfl rfl k) ?_
                        refine X36.ldJo hx hZ e36 A_b9 (y33).toInt.toNat (Int.toNat_of_nonneg (by omega)).symm (by omega) (hb hby own_dI_236) ?_
                        rintro _ ⟨y37, rfl⟩
                        refine own_gs 238 [(.ref t), (.long y37), (.int y33), (.ref b9)] (fun t' k => XS.aloadN X36.here hx rfl (hb hby own_dI_237) rfl rfl  k) ?_
                        refine X36.getF hx hZ hown (hw _ (List.mem_of_getElem? (i := 26) rfl)) e36 F_total (hb hby own_dI_238) ?_
                        intro T38 X38 e38
                        refine own_gs 243 [(.ref b9), (.long sm), (.long y37), (.int y33), (.ref b9)] (fun t' k => XS.aload X38.here hx rfl (hb hby own_dI_241) rfl rfl  k) ?_
                        refine own_gs 245 [(.int y32), (.ref b9), (.long sm), (.long y37), (.int y33), (.ref b9)] (fun t' k => XS.iload X38.here hx rfl (hb hby own_dI_243) rfl  k) ?_
                        refine X38.ldJo hx hZ e38 A_b9 (y32).toInt.toNat (Int.toNat_of_nonneg (by omega)).symm (by omega) (hb hby own_dI_245) ?_
                        rintro _ ⟨y39, rfl⟩
                        refine own_gs 247 [(.long (sm - y39)), (.long y37), (.int y33), (.ref b9)] (fun t' k => XS.lsub X38.here hx rfl (hb hby own_dI_246) rfl k) ?_
                        refine own_gs 248 [(.long (y37 - (sm - y39))), (.int y33), (.ref b9)] (fun t' k => XS.lsub X38.here hx rfl (hb hby own_dI_247) rfl k) ?_
                        refine X38.stJo hx hZ e38 A_b9 g_b9 (y33).toInt.toNat (Int.toNat_of_nonneg (by omega)).symm (by omega) ⟨_, rfl⟩ (hb hby own_dI_248) ?_
                        intro T40 h40 X40 e40 W40 A40
                        replace A_b9 := A40
                        replace E_t := E_t.wr W40
                        replace A_w := A_w.other W40 (Nat.ne_of_lt lt_w_b9)
                        replace F_shift := F_shift.other W40 (Or.inl (Nat.ne_of_lt lt_t_b9))
                        replace F_total := F_total.other W40 (Or.inl (Nat.ne_of_lt lt_t_b9))
                        replace F_packed := F_packed.other W40 (Or.inl (Nat.ne_of_lt lt_t_b9))
                        replace F_thresholds := F_thresholds.other W40 (Or.inl (Nat.ne_of_lt lt_t_b9))
                        replace F_aliases := F_aliases.other W40 (Or.inl (Nat.ne_of_lt lt_t_b9))
                        replace A_b2 := A_b2.other W40 (Nat.ne_of_lt lt_b2_b9)
                        replace A_b3 := A_b3.other W40 (Nat.ne_of_lt lt_b3_b9)
                        replace A_b10 := A_b10.other W40 (Ne.symm (Nat.ne_of_lt lt_b9_b10))
                        replace A_b11 := A_b11.other W40 (Ne.symm (Nat.ne_of_lt lt_b9_b11))
                        replace hn := Nat.le_trans hn (Keep.of_wr W40).1
                        clear W40 X38 e38
                        refine own_gs 251 [(.ref b9)] (fun t' k => XS.aload X40.here hx rfl (hb hby own_dI_249) rfl rfl  k) ?_
                        refine own_gs 253 [(.int y33), (.ref b9)] (fun t' k => XS.iload X40.here hx rfl (hb hby own_dI_251) rfl  k) ?_
                        refine X40.ldJo hx hZ e40 A_b9 (y33).toInt.toNat (Int.toNat_of_nonneg (by omega)).symm (by omega) (hb hby own_dI_253) ?_
                        rintro _ ⟨y41, rfl⟩
                        refine own_gs 255 [(.ref t), (.long y41)] (fun t' k => XS.aloadN X40.here hx rfl (hb hby own_dI_254) rfl rfl  k) ?_
                        refine X40.getF hx hZ hown (hw _ (List.mem_of_getElem? (i := 26) rfl)) e40 F_total (hb hby own_dI_255) ?_
                        intro T42 X42 e42
                        refine own_gs 259 [(.int (lcmpW y41 sm))] (fun t' k => XS.lcmp X42.here hx rfl (hb hby own_dI_258) rfl k) ?_
                        by_cases hc259 : y41 < sm
                        · skip
                          refine own_gs 262 [] (fun t' k => XS.ifNo X42.here hx rfl (hb hby own_dI_259) rfl ((if0 _ _).trans (tlt ((lw_lt y41 sm).mpr hc259)).2.1) k) ?_
                          refine own_go (mkF m 265 #[rv t, rv w, iv cl, rv b2, rv b3, jv sm, .second, rv b9, rv b10, rv b11, iv u2, iv (o + (-1 : Int32)), iv y32, iv y33] []) (fun t' k => XS.iinc X42.here hx rfl (hb hby own_dI_262) rfl rfl k) ?_
                          refine own_gs 267 [(.ref b10)] (fun t' k => XS.aload X42.here hx rfl (hb hby own_dI_265) rfl rfl  k) ?_
                          refine own_gs 269 [(.int u2), (.ref b10)] (fun t' k => XS.iload X42.here hx rfl (hb hby own_dI_267) rfl  k) ?_
                          refine own_go (mkF m 272 #[rv t, rv w, iv cl, rv b2, rv b3, jv sm, .second, rv b9, rv b10, rv b11, iv (u2 + (1 : Int32)), iv (o + (-1 : Int32)), iv y32, iv y33] [(.int u2), (.ref b10)]) (fun t' k => XS.iinc X42.here hx rfl (hb hby own_dI_269) rfl rfl k) ?_
                          refine own_gs 274 [(.int y33), (.int u2), (.ref b10)] (fun t' k => XS.iload X42.here hx rfl (hb hby own_dI_272) rfl  k) ?_
                          refine X42.stIo hx hZ e42 A_b10 g_b10 (u2).toInt.toNat (Int.toNat_of_nonneg (by omega)).symm (by omega) ⟨_, rfl, by omega, by omega⟩ (hb hby own_dI_274) ?_
                          intro T43 h43 X43 e43 W43 A43
                          replace A_b10 := A43
                          replace E_t := E_t.wr W43
                          replace A_w := A_w.other W43 (Nat.ne_of_lt lt_w_b10)
                          replace F_shift := F_shift.other W43 (Or.inl (Nat.ne_of_lt lt_t_b10))
                          replace F_total := F_total.other W43 (Or.inl (Nat.ne_of_lt lt_t_b10))
                          replace F_packed := F_packed.other W43 (Or.inl (Nat.ne_of_lt lt_t_b10))
                          replace F_thresholds := F_thresholds.other W43 (Or.inl (Nat.ne_of_lt lt_t_b10))
                          replace F_aliases := F_aliases.other W43 (Or.inl (Nat.ne_of_lt lt_t_b10))
                          replace A_b2 := A_b2.other W43 (Nat.ne_of_lt lt_b2_b10)
                          replace A_b3 := A_b3.other W43 (Nat.ne_of_lt lt_b3_b10)
                          replace A_b9 := A_b9.other W43 (Nat.ne_of_lt lt_b9_b10)
                          replace A_b11 := A_b11.other W43 (Ne.symm (Nat.ne_of_lt lt_b10_b11))
                          replace hn := Nat.le_trans hn (Keep.of_wr W43).1
                          clear W43 X42 e42
                          refine own_gs 186 [] (fun t' k => XS.goto X43.here hx rfl (pc0 := 275) (pc' := 186) rfl (hb hby own_dI_275) (by decide) (by decide) k) ?_
                          have hu3 : ((u2 + (1 : Int32))).toInt = u2.toInt + 1 := by rw [Jvm.Kit.i32_add (by omega) (by omega), z1]
                          generalize (u2 + (1 : Int32)) = u3 at hu3 ⊢
                          have ho3 : ((o + (-1 : Int32))).toInt = o.toInt - 1 := by rw [Jvm.Kit.i32_add (by omega) (by omega), zm1]; omega
                          generalize (o + (-1 : Int32)) = o3 at ho3 ⊢
                          exact ihLC _ (by omega) T43 h43 (u3) (o3) (y32) (iv y33) (X43.more (by decide) (by decide)) e43 hn E_t A_w F_shift F_total F_packed F_thresholds F_aliases A_b2 A_b3 A_b9 A_b10 A_b11 (by omega) (by omega) (by omega) (Or.inr ⟨_, rfl, rfl⟩) rfl
                        · skip
                          refine own_gs 275 [] (fun t' k => XS.ifYes X42.here hx rfl (pc0 := 259) (pc' := 275) rfl (hb hby own_dI_259) rfl ((if0 _ _).trans (flt (fun q' => hc259 ((lw_lt y41 sm).mp q'))).2.1) (by decide) (by decide) k) ?_
                          refine own_gs 186 [] (fun t' k => XS.goto X42.here hx rfl (pc0 := 275) (pc' := 186) rfl (hb hby own_dI_275) (by decide) (by decide) k) ?_
                          exact ihLC _ (by omega) T42 h40 (u2) (o) (y32) (iv y33) (X42.more (by decide) (by decide)) e42 hn E_t A_w F_shift F_total F_packed F_thresholds F_aliases A_b2 A_b3 A_b9 A_b10 A_b11 (by omega) (by omega) (by omega) (Or.inr ⟨_, rfl, rfl⟩) rfl
                      · skip
                        have hc193i : ¬ ((0 : Int32).toInt < o.toInt) := fun q' => hc193 (Int32.lt_iff_toInt_lt.mpr q')
                        refine own_gs 278 [] (fun t' k => XS.ifYes XLLC.here hx rfl (pc0 := 193) (pc' := 278) rfl (hb hby own_dI_193) rfl ((if0 _ _).trans (flt hc193).2.2.2) (by decide) (by decide) k) ?_
                        exact LD _ TLLC hLLC (u) (o) (tp) (s13) (XLLC.more (by decide) (by decide)) eLLC hn E_t A_w F_shift F_total F_packed F_thresholds F_aliases A_b2 A_b3 A_b9 A_b10 A_b11 (by omega) (by omega) hs13 rfl
                    · skip
                      have hc188i : ¬ ((0 : Int32).toInt < u.toInt) := fun q' => hc188 (Int32.lt_iff_toInt_lt.mpr q')
                      refine own_gs 278 [] (fun t' k => XS.ifYes XLLC.here hx rfl (pc0 := 188) (pc' := 278) rfl (hb hby own_dI_188) rfl ((if0 _ _).trans (flt hc188).2.2.2) (by decide) (by decide) k) ?_
                      exact LD _ TLLC hLLC (u) (o) (tp) (s13) (XLLC.more (by decide) (by decide)) eLLC hn E_t A_w F_shift F_total F_packed F_thresholds F_aliases A_b2 A_b3 A_b9 A_b10 A_b11 (by omega) (by omega) hs13 rfl
                exact LC _ TLLB hLLB (u) (o) (x) (.unset) (XLLB.more (by decide) (by decide)) eLLB hn E_t A_w F_shift F_total F_packed F_thresholds F_aliases A_b2 A_b3 A_b9 A_b10 A_b11 (by omega) (by omega) (by omega) (Or.inl rfl) rfl
          exact LB _ T11 h11 ((0 : Int32)) ((0 : Int32)) ((0 : Int32)) (X11.more (by decide) (by decide)) e11 hn E_t A_w F_shift F_total F_packed F_thresholds F_aliases A_b2 A_b3 A_b9 A_b10 A_b11 (by decide) (by decide) (by omega) (by decide) rfl
    exact LA _ T5 h5 (((0 : Int64) + y6)) ((1 : Int32)) (y6) (X5.more (by decide) (by decide)) e5 hn E_t A_w F_shift F_total F_packed F_thresholds F_aliases A_b2 A_b3 (by decide) (by show (1 : Int) ≤ n; omega) rfl
  refine own_gs 5 [(.ref w)] (fun t' k => XS.aloadN X1.here hx rfl (hb hby own_dI_4) rfl rfl  k) ?_
  refine X1.aleno hx hZ e1 A_w (hb hby own_dI_5) ?_
  rw [own_ofNat hnI]
  show own_G p e below s _ _ _ T1 (mkF m 6 #[rv t, rv w, .unset, .unset, .unset, .unset, .unset, .unset, .unset, .unset, .unset, .unset, .unset, .unset] [(.int nI)])
  refine own_gs 7 [(.int (1 : Int32)), (.int nI)] (fun t' k => XS.iconst X1.here hx rfl (hb hby own_dI_6) k) ?_
  by_cases hc7 : (1 : Int32) < nI
  · skip
    have hc7i := Int32.lt_iff_toInt_lt.mp hc7
    refine own_gs 14 [] (fun t' k => XS.icmpYes X1.here hx rfl (pc0 := 7) (pc' := 14) rfl (hb hby own_dI_7) rfl (tlt hc7).2.2.1 (by decide) (by decide) k) ?_
    refine own_gs 15 [(.ref w)] (fun t' k => XS.aloadN X1.here hx rfl (hb hby own_dI_14) rfl rfl  k) ?_
    refine X1.aleno hx hZ e1 A_w (hb hby own_dI_15) ?_
    rw [own_ofNat hnI]
    show own_G p e below s _ _ _ T1 (mkF m 16 #[rv t, rv w, .unset, .unset, .unset, .unset, .unset, .unset, .unset, .unset, .unset, .unset, .unset, .unset] [(.int nI)])
    refine own_gs 17 [(.int (1 : Int32)), (.int nI)] (fun t' k => XS.iconst X1.here hx rfl (hb hby own_dI_16) k) ?_
    refine own_gs 18 [(.int (nI - (1 : Int32)))] (fun t' k => XS.isub X1.here hx rfl (hb hby own_dI_17) rfl k) ?_
    refine X1.callP hx hZ (y := (⟨"java/lang/Integer", "highestOneBit", "(I)I"⟩ : MethodName)) (fr := 1) (lo := 15) (r := (.int (own_hob (nI - (1 : Int32))))) hown (hw _ (List.mem_of_getElem? (i := 43) rfl)) (hw _ (List.mem_of_getElem? (i := 44) rfl)) (hw _ (List.mem_of_getElem? (i := 22) rfl)) (hw _ (List.mem_of_getElem? (i := 45) rfl)) (by decide) e1 [(.int (nI - (1 : Int32)))] [] (own_hobC l Z a0 hw [] h0 (nI - (1 : Int32))) 0 (by decide) (by decide) (Nat.le_of_eq rfl) (by decide) (by decide) (by rw [hml]; rfl) (lenOf own_pd0 rfl) rfl (hb hby own_dI_18) ?_
    intro T44 X44 e44
    refine own_gs 22 [(.int (1 : Int32)), (.int (own_hob (nI - (1 : Int32))))] (fun t' k => XS.iconst X44.here hx rfl (hb hby own_dI_21) k) ?_
    refine own_gs 23 [(.int ((own_hob (nI - (1 : Int32))) <<< ((1 : Int32) &&& 31)))] (fun t' k => XS.ishl X44.here hx rfl (hb hby own_dI_22) rfl k) ?_
    exact JC T44 (X44.more (by decide) (by decide)) e44 (((own_hob (nI - (1 : Int32))) <<< ((1 : Int32) &&& 31))) (show own_colsf nI = _ from if_pos hc7).symm
  · skip
    have hc7i : ¬ ((1 : Int32).toInt < nI.toInt) := fun q' => hc7 (Int32.lt_iff_toInt_lt.mpr q')
    refine own_gs 10 [] (fun t' k => XS.icmpNo X1.here hx rfl (hb hby own_dI_7) rfl (flt hc7).2.2.1 k) ?_
    refine own_gs 11 [(.int (1 : Int32))] (fun t' k => XS.iconst X1.here hx rfl (hb hby own_dI_10) k) ?_
    refine own_gs 23 [(.int (1 : Int32))] (fun t' k => XS.goto X1.here hx rfl (pc0 := 11) (pc' := 23) rfl (hb hby own_dI_11) (by decide) (by decide) k) ?_
    exact JC T1 (X1.more (by decide) (by decide)) e1 ((1 : Int32)) (show own_colsf nI = (1 : Int32) from if_neg hc7).symm

theorem own_pn_own_rm0 : plainFor x = true := plainFor_of_name (show plainName "com/example/load_across_peers/loadacrosspeers/internal/pick/AliasTableColumnsPinLaw" = true by first | (simp [plainName, overriddenIn]; done) | decide +kernel)
set_option maxRecDepth 65536 in
set_option maxHeartbeats 40000000 in
theorem own_rm0 (l : Launch) (Z : State) (a0 : Array Value) (hw : ∀ d ∈ tables_1, d.before a0 Z = true) (ws : List Jvm.Cond) (h0 : Heap) (x0 x1 x2 : Int32)  :
    own_C l Z x code maxLocals ret ws room_1 #[(.int x0), (.int x1), (.int x2)] h0 (own_Q h0.size (fun v h => v = some (.int 1))) := by
  refine own_met own_pn_own_rm0 #[iv x0, iv x1, iv x2, .unset, .unset, .unset, .unset, .unset, .unset, .unset, .unset] (fun m => by first | (simp [entryFrame, mkF, argsToLocals, Value.category, maxLocals]; done) | rfl) ?_
  intro p e s m below meth c s₁ hx hby hml hown hret hlk hZ hnm X0 e0
  replace hml : c.maxLocals = 11 := hml
  replace X0 := own_S.of X0 (h0.size)
  have hn : h0.size ≤ h0.size := Nat.le_refl _
  have zm1 : ((-1) : Int32).toInt = -1 := rfl
  have z0 : (0 : Int32).toInt = 0 := rfl
  have z1 : (1 : Int32).toInt = 1 := rfl
  have z2 : (2 : Int32).toInt = 2 := rfl
  have z3 : (3 : Int32).toInt = 3 := rfl
  have z4 : (4 : Int32).toInt = 4 := rfl
  have z5 : (5 : Int32).toInt = 5 := rfl
  have z6 : (6 : Int32).toInt = 6 := rfl
  have z7 : (7 : Int32).toInt = 7 := rfl
  have z8 : (8 : Int32).toInt = 8 := rfl
  refine own_gs 1 [(.int (1 : Int32))] (fun t' k => XS.iconst X0.here hx rfl (hb hby at_0) k) ?_
  refine own_gs 2 [(.int x0), (.int (1 : Int32))] (fun t' k => XS.iloadN X0.here hx rfl (hb hby at_1) rfl  k) ?_
  refine own_gs 4 [(.int (2147483647 : Int32)), (.int x0), (.int (1 : Int32))] (fun t' k => X0.ldcInt hx hown (mvT hZ (hw _ (List.mem_of_getElem? (i := 0) rfl))) (g := (mkF m 2 #[iv x0, iv x1, iv x2, .unset, .unset, .unset, .unset, .unset, .unset, .unset, .unset] [(.int x0), (.int (1 : Int32))])) rfl (hb hby at_2) _ k) ?_
  refine own_gs 5 [(.int (x0 &&& (2147483647 : Int32))), (.int (1 : Int32))] (fun t' k => XS.iand X0.here hx rfl (hb hby at_4) rfl k) ?_
  refine own_gs 7 [(.int (9 : Int32)), (.int (x0 &&& (2147483647 : Int32))), (.int (1 : Int32))] (fun t' k => XS.bipush X0.here hx rfl (hb hby at_5) k) ?_
  refine own_gs 8 [(.int ((x0 &&& (2147483647 : Int32)) - ((x0 &&& (2147483647 : Int32)) / (9 : Int32)) * (9 : Int32))), (.int (1 : Int32))] (fun t' k => XS.irem X0.here hx rfl (hb hby at_7) rfl (by decide) k) ?_
  refine own_gs 9 [(.int ((1 : Int32) + ((x0 &&& (2147483647 : Int32)) - ((x0 &&& (2147483647 : Int32)) / (9 : Int32)) * (9 : Int32))))] (fun t' k => XS.iadd X0.here hx rfl (hb hby at_8) rfl k) ?_
  obtain ⟨n, hnI, hn1, hn9⟩ := own_nn x0
  generalize ((1 : Int32) + ((x0 &&& (2147483647 : Int32)) - ((x0 &&& (2147483647 : Int32)) / (9 : Int32)) * (9 : Int32))) = nI at hnI ⊢
  obtain ⟨cn, hcn, hc1, hc16, hncn, hce⟩ := own_colsB hnI hn1 hn9
  refine own_go (mkF m 10 #[iv x0, iv x1, iv x2, iv nI, .unset, .unset, .unset, .unset, .unset, .unset, .unset] []) (fun t' k => XS.istoreN X0.here hx rfl (hb hby at_9) rfl rfl k) ?_
  refine own_gs 11 [(.long (1 : Int64))] (fun t' k => XS.lconst X0.here hx rfl (hb hby at_10) k) ?_
  refine own_gs 12 [(.int x1), (.long (1 : Int64))] (fun t' k => XS.iloadN X0.here hx rfl (hb hby at_11) rfl  k) ?_
  refine own_gs 14 [(.int (2147483647 : Int32)), (.int x1), (.long (1 : Int64))] (fun t' k => X0.ldcInt hx hown (mvT hZ (hw _ (List.mem_of_getElem? (i := 0) rfl))) (g := (mkF m 12 #[iv x0, iv x1, iv x2, iv nI, .unset, .unset, .unset, .unset, .unset, .unset, .unset] [(.int x1), (.long (1 : Int64))])) rfl (hb hby at_12) _ k) ?_
  refine own_gs 15 [(.int (x1 &&& (2147483647 : Int32))), (.long (1 : Int64))] (fun t' k => XS.iand X0.here hx rfl (hb hby at_14) rfl k) ?_
  refine own_gs 16 [(.long ((x1 &&& (2147483647 : Int32)).toInt64)), (.long (1 : Int64))] (fun t' k => XS.i2l X0.here hx rfl (hb hby at_15) rfl k) ?_
  refine X0.callP hx hZ (y := (⟨"java/lang/Math", "max", "(JJ)J"⟩ : MethodName)) (fr := 0) (lo := 0) (r := (.long (own_max (1 : Int64) ((x1 &&& (2147483647 : Int32)).toInt64)))) hown (hw _ (List.mem_of_getElem? (i := 1) rfl)) (hw _ (List.mem_of_getElem? (i := 2) rfl)) (hw _ (List.mem_of_getElem? (i := 3) rfl)) (hw _ (List.mem_of_getElem? (i := 4) rfl)) (by decide) e0 [(.long (1 : Int64)), (.long ((x1 &&& (2147483647 : Int32)).toInt64))] [] (own_maxC l Z a0 hw [] h0 (1 : Int64) ((x1 &&& (2147483647 : Int32)).toInt64)) 0 (by decide) (by decide) (Nat.le_of_eq rfl) (by decide) (by decide) (by rw [hml]; rfl) (lenOf own_pd1 rfl) rfl (hb hby at_16) ?_
  intro T1 X1 e1
  refine own_go (mkF m 21 #[iv x0, iv x1, iv x2, iv nI, jv (own_max (1 : Int64) ((x1 &&& (2147483647 : Int32)).toInt64)), .second, .unset, .unset, .unset, .unset, .unset] []) (fun t' k => XS.lstore X1.here hx rfl (hb hby at_19) rfl rfl k) ?_
  refine own_gs 22 [(.int x2)] (fun t' k => XS.iloadN X1.here hx rfl (hb hby at_21) rfl  k) ?_
  refine own_gs 24 [(.int (2147483647 : Int32)), (.int x2)] (fun t' k => X1.ldcInt hx hown (mvT hZ (hw _ (List.mem_of_getElem? (i := 0) rfl))) (g := (mkF m 22 #[iv x0, iv x1, iv x2, iv nI, jv (own_max (1 : Int64) ((x1 &&& (2147483647 : Int32)).toInt64)), .second, .unset, .unset, .unset, .unset, .unset] [(.int x2)])) rfl (hb hby at_22) _ k) ?_
  refine own_gs 25 [(.int (x2 &&& (2147483647 : Int32)))] (fun t' k => XS.iand X1.here hx rfl (hb hby at_24) rfl k) ?_
  refine own_gs 26 [(.long ((x2 &&& (2147483647 : Int32)).toInt64))] (fun t' k => XS.i2l X1.here hx rfl (hb hby at_25) rfl k) ?_
  refine own_go (mkF m 28 #[iv x0, iv x1, iv x2, iv nI, jv (own_max (1 : Int64) ((x1 &&& (2147483647 : Int32)).toInt64)), .second, jv ((x2 &&& (2147483647 : Int32)).toInt64), .second, .unset, .unset, .unset] []) (fun t' k => XS.lstore X1.here hx rfl (hb hby at_26) rfl rfl k) ?_
  refine own_gs 29 [(.int nI)] (fun t' k => XS.iloadN X1.here hx rfl (hb hby at_28) rfl  k) ?_
  refine own_gs 31 [(.long (own_max (1 : Int64) ((x1 &&& (2147483647 : Int32)).toInt64))), (.int nI)] (fun t' k => XS.lload X1.here hx rfl (hb hby at_29) rfl  k) ?_
  refine own_gs 33 [(.long ((x2 &&& (2147483647 : Int32)).toInt64)), (.long (own_max (1 : Int64) ((x1 &&& (2147483647 : Int32)).toInt64))), (.int nI)] (fun t' k => XS.lload X1.here hx rfl (hb hby at_31) rfl  k) ?_
  refine X1.callS hx hZ (y := (⟨"com/example/load_across_peers/loadacrosspeers/internal/pick/AliasTableColumnsPinLaw", "weights", "(IJJ)[J"⟩ : MethodName)) hown (hw _ (List.mem_of_getElem? (i := 5) rfl)) (hw _ (List.mem_of_getElem? (i := 6) rfl)) (hw _ (List.mem_of_getElem? (i := 7) rfl)) (hw _ (List.mem_of_getElem? (i := 8) rfl)) (by decide) e1 [(.int nI), (.long (own_max (1 : Int64) ((x1 &&& (2147483647 : Int32)).toInt64))), (.long ((x2 &&& (2147483647 : Int32)).toInt64))] [] (own_rmW l Z a0 hw [] h0 h0.size hn n nI hnI hn1 hn9 (own_max (1 : Int64) ((x1 &&& (2147483647 : Int32)).toInt64)) ((x2 &&& (2147483647 : Int32)).toInt64)) 0 (by decide) (by decide) (Nat.le_of_eq rfl) (by decide) (by decide) (by rw [hml]; rfl) (lenOf own_pd2 rfl) rfl (hb hby at_33) ?_
  rintro T2 _ X2 ⟨wa, rfl, hn2, g_wa, A_wa⟩
  replace hn := hn2
  show own_G p e below s _ _ _ T2 (mkF m 36 #[iv x0, iv x1, iv x2, iv nI, jv (own_max (1 : Int64) ((x1 &&& (2147483647 : Int32)).toInt64)), .second, jv ((x2 &&& (2147483647 : Int32)).toInt64), .second, .unset, .unset, .unset] [(.ref wa)])
  refine own_go (mkF m 38 #[iv x0, iv x1, iv x2, iv nI, jv (own_max (1 : Int64) ((x1 &&& (2147483647 : Int32)).toInt64)), .second, jv ((x2 &&& (2147483647 : Int32)).toInt64), .second, rv wa, .unset, .unset] []) (fun t' k => XS.astore X2.here hx rfl (hb hby at_36) rfl rfl rfl k) ?_
  refine X2.newO hx hZ hown (hw _ (List.mem_of_getElem? (i := 10) rfl)) (hw _ (List.mem_of_getElem? (i := 11) rfl)) (hw _ (List.mem_of_getElem? (i := 12) rfl)) rfl (hb hby at_38) (by decide) (by decide) ?_
  intro T3 h3 b3 X3 e3 q3 xt3 E_b3 D3
  have g_b3 : h0.size ≤ b3 := by rw [q3]; exact hn
  have lt_wa_b3 : wa < b3 := by rw [q3]; exact A_wa.lt
  replace A_wa := A_wa.ext xt3
  replace hn := Nat.le_trans hn xt3.1
  have F_b3_shift : Fld Z h3 b3 "com/example/load_across_peers/loadacrosspeers/internal/pick/AliasTable" "shift" "I" (.int (0 : Int32)) := D3 (Or.inr (hw _ (List.mem_of_getElem? (i := 25) rfl))) (ty := .int) (by decide)
  have F_b3_total : Fld Z h3 b3 "com/example/load_across_peers/loadacrosspeers/internal/pick/AliasTable" "total" "J" (.long (0 : Int64)) := D3 (Or.inr (hw _ (List.mem_of_getElem? (i := 27) rfl))) (ty := .long) (by decide)
  have F_b3_packed : Fld Z h3 b3 "com/example/load_across_peers/loadacrosspeers/internal/pick/AliasTable" "packed" "[J" .null := D3 (Or.inr (hw _ (List.mem_of_getElem? (i := 30) rfl))) (ty := (.array .long)) (by decide)
  have F_b3_thresholds : Fld Z h3 b3 "com/example/load_across_peers/loadacrosspeers/internal/pick/AliasTable" "thresholds" "[J" .null := D3 (Or.inr (hw _ (List.mem_of_getElem? (i := 32) rfl))) (ty := (.array .long)) (by decide)
  have F_b3_aliases : Fld Z h3 b3 "com/example/load_across_peers/loadacrosspeers/internal/pick/AliasTable" "aliases" "[I" .null := D3 (Or.inr (hw _ (List.mem_of_getElem? (i := 34) rfl))) (ty := (.array .int)) (by decide)
  refine own_gs 42 [(.ref b3), (.ref b3)] (fun t' k => XS.dup X3.here hx rfl (hb hby at_41) rfl rfl k) ?_
  refine own_gs 44 [(.ref wa), (.ref b3), (.ref b3)] (fun t' k => XS.aload X3.here hx rfl (hb hby at_42) rfl rfl  k) ?_
  refine X3.callI hx hZ (y := (⟨"com/example/load_across_peers/loadacrosspeers/internal/pick/AliasTable", "<init>", "([J)V"⟩ : MethodName)) rfl hown (hw _ (List.mem_of_getElem? (i := 13) rfl)) (hw _ (List.mem_of_getElem? (i := 14) rfl)) (hw _ (List.mem_of_getElem? (i := 12) rfl)) (hw _ (List.mem_of_getElem? (i := 15) rfl)) (by decide) e3 b3 [(.ref wa)] [(.ref b3)] (own_rmI l Z a0 hw [] h3 h0.size hn b3 wa g_b3 (Ne.symm (Nat.ne_of_lt lt_wa_b3)) n nI hnI hn1 hn9 cn hcn hc1 hc16 hncn E_b3 A_wa F_b3_shift F_b3_total F_b3_packed F_b3_thresholds F_b3_aliases) 1 (by decide) (by decide) (Nat.le_of_eq rfl) (by decide) (by decide) (by rw [hml]; rfl) (lenOf own_pd3 rfl) rfl (hb hby at_44) ?_
  rintro T4 _ X4 ⟨rfl, hn4, E_t, HT⟩
  replace hn := hn4
  show own_G p e below s _ _ _ T4 (mkF m 47 #[iv x0, iv x1, iv x2, iv nI, jv (own_max (1 : Int64) ((x1 &&& (2147483647 : Int32)).toInt64)), .second, jv ((x2 &&& (2147483647 : Int32)).toInt64), .second, rv wa, .unset, .unset] [(.ref b3)])
  refine own_go (mkF m 49 #[iv x0, iv x1, iv x2, iv nI, jv (own_max (1 : Int64) ((x1 &&& (2147483647 : Int32)).toInt64)), .second, jv ((x2 &&& (2147483647 : Int32)).toInt64), .second, rv wa, rv b3, .unset] []) (fun t' k => XS.astore X4.here hx rfl (hb hby at_47) rfl rfl rfl k) ?_
  refine own_gs 51 [(.ref b3)] (fun t' k => XS.aload X4.here hx rfl (hb hby at_49) rfl rfl  k) ?_
  rcases HT with ⟨bb, HF, HA⟩ | ⟨HF, bb, HG, HA⟩
  · skip
    refine X4.callV hx hZ (y := (⟨"com/example/load_across_peers/loadacrosspeers/internal/pick/AliasTable", "columns", "()I"⟩ : MethodName)) (C := "com/example/load_across_peers/loadacrosspeers/internal/pick/AliasTable") hown (hw _ (List.mem_of_getElem? (i := 35) rfl)) (hw _ (List.mem_of_getElem? (i := 36) rfl)) (hw _ (List.mem_of_getElem? (i := 38) rfl)) (hw _ (List.mem_of_getElem? (i := 37) rfl)) (hw _ (List.mem_of_getElem? (i := 12) rfl)) (hw _ (List.mem_of_getElem? (i := 39) rfl)) (by decide) rfl E_t [] [] (own_rmCA l Z a0 hw [] T4.heap h0.size hn b3 bb cn HA HF) 0 (by decide) (by decide) (Nat.le_of_eq rfl) (by decide) (by decide) (by rw [hml]; rfl) (lenOf own_pd4 rfl) rfl (hb hby at_51) ?_
    rintro T5 _ X5 ⟨rfl, e5⟩
    show own_G p e below s _ _ _ T5 (mkF m 54 #[iv x0, iv x1, iv x2, iv nI, jv (own_max (1 : Int64) ((x1 &&& (2147483647 : Int32)).toInt64)), .second, jv ((x2 &&& (2147483647 : Int32)).toInt64), .second, rv wa, rv b3, .unset] [(.int (Int32.ofNat cn))])
    refine own_go (mkF m 56 #[iv x0, iv x1, iv x2, iv nI, jv (own_max (1 : Int64) ((x1 &&& (2147483647 : Int32)).toInt64)), .second, jv ((x2 &&& (2147483647 : Int32)).toInt64), .second, rv wa, rv b3, iv (Int32.ofNat cn)] []) (fun t' k => XS.istore X5.here hx rfl (hb hby at_54) rfl rfl k) ?_
    refine own_gs 58 [(.int (Int32.ofNat cn))] (fun t' k => XS.iload X5.here hx rfl (hb hby at_56) rfl  k) ?_
    refine own_gs 59 [(.int nI), (.int (Int32.ofNat cn))] (fun t' k => XS.iloadN X5.here hx rfl (hb hby at_58) rfl  k) ?_
    refine X5.callP hx hZ (y := (⟨"com/example/load_across_peers/loadacrosspeers/internal/pick/AliasTableColumnsPinLaw", "expected", "(I)I"⟩ : MethodName)) (fr := 0) (lo := 0) (r := (.int (own_ex nI))) hown (hw _ (List.mem_of_getElem? (i := 40) rfl)) (hw _ (List.mem_of_getElem? (i := 41) rfl)) (hw _ (List.mem_of_getElem? (i := 7) rfl)) (hw _ (List.mem_of_getElem? (i := 42) rfl)) (by decide) rfl [(.int nI)] [(.int (Int32.ofNat cn))] (own_exC l Z a0 hw [] T5.heap nI) 1 (by decide) (by decide) (Nat.le_of_eq rfl) (by decide) (by decide) (by rw [hml]; rfl) (lenOf own_pd0 rfl) rfl (hb hby at_59) ?_
    intro T6 X6 e6
    have hcei := congrArg Int32.toInt hce
    refine own_gs 65 [] (fun t' k => XS.icmpNo X6.here hx rfl (hb hby at_62) rfl (teq hce).2 k) ?_
    refine own_gs 66 [(.int (1 : Int32))] (fun t' k => XS.iconst X6.here hx rfl (hb hby at_65) k) ?_
    refine own_gs 70 [(.int (1 : Int32))] (fun t' k => XS.goto X6.here hx rfl (pc0 := 66) (pc' := 70) rfl (hb hby at_66) (by decide) (by decide) k) ?_
    refine X6.retZ hx hlk hret (hb hby at_70) ?_ (by decide) (by decide)
    exact rfl
  · skip
    refine X4.callV hx hZ (y := (⟨"com/example/load_across_peers/loadacrosspeers/internal/pick/AliasTable", "columns", "()I"⟩ : MethodName)) (C := "com/example/load_across_peers/loadacrosspeers/internal/pick/AliasTable") hown (hw _ (List.mem_of_getElem? (i := 35) rfl)) (hw _ (List.mem_of_getElem? (i := 36) rfl)) (hw _ (List.mem_of_getElem? (i := 38) rfl)) (hw _ (List.mem_of_getElem? (i := 37) rfl)) (hw _ (List.mem_of_getElem? (i := 12) rfl)) (hw _ (List.mem_of_getElem? (i := 39) rfl)) (by decide) rfl E_t [] [] (own_rmCB l Z a0 hw [] T4.heap h0.size hn b3 bb cn HA HF HG) 0 (by decide) (by decide) (Nat.le_of_eq rfl) (by decide) (by decide) (by rw [hml]; rfl) (lenOf own_pd4 rfl) rfl (hb hby at_51) ?_
    rintro T7 _ X7 ⟨rfl, e7⟩
    show own_G p e below s _ _ _ T7 (mkF m 54 #[iv x0, iv x1, iv x2, iv nI, jv (own_max (1 : Int64) ((x1 &&& (2147483647 : Int32)).toInt64)), .second, jv ((x2 &&& (2147483647 : Int32)).toInt64), .second, rv wa, rv b3, .unset] [(.int (Int32.ofNat cn))])
    refine own_go (mkF m 56 #[iv x0, iv x1, iv x2, iv nI, jv (own_max (1 : Int64) ((x1 &&& (2147483647 : Int32)).toInt64)), .second, jv ((x2 &&& (2147483647 : Int32)).toInt64), .second, rv wa, rv b3, iv (Int32.ofNat cn)] []) (fun t' k => XS.istore X7.here hx rfl (hb hby at_54) rfl rfl k) ?_
    refine own_gs 58 [(.int (Int32.ofNat cn))] (fun t' k => XS.iload X7.here hx rfl (hb hby at_56) rfl  k) ?_
    refine own_gs 59 [(.int nI), (.int (Int32.ofNat cn))] (fun t' k => XS.iloadN X7.here hx rfl (hb hby at_58) rfl  k) ?_
    refine X7.callP hx hZ (y := (⟨"com/example/load_across_peers/loadacrosspeers/internal/pick/AliasTableColumnsPinLaw", "expected", "(I)I"⟩ : MethodName)) (fr := 0) (lo := 0) (r := (.int (own_ex nI))) hown (hw _ (List.mem_of_getElem? (i := 40) rfl)) (hw _ (List.mem_of_getElem? (i := 41) rfl)) (hw _ (List.mem_of_getElem? (i := 7) rfl)) (hw _ (List.mem_of_getElem? (i := 42) rfl)) (by decide) rfl [(.int nI)] [(.int (Int32.ofNat cn))] (own_exC l Z a0 hw [] T7.heap nI) 1 (by decide) (by decide) (Nat.le_of_eq rfl) (by decide) (by decide) (by rw [hml]; rfl) (lenOf own_pd0 rfl) rfl (hb hby at_59) ?_
    intro T8 X8 e8
    have hcei := congrArg Int32.toInt hce
    refine own_gs 65 [] (fun t' k => XS.icmpNo X8.here hx rfl (hb hby at_62) rfl (teq hce).2 k) ?_
    refine own_gs 66 [(.int (1 : Int32))] (fun t' k => XS.iconst X8.here hx rfl (hb hby at_65) k) ?_
    refine own_gs 70 [(.int (1 : Int32))] (fun t' k => XS.goto X8.here hx rfl (pc0 := 66) (pc' := 70) rfl (hb hby at_66) (by decide) (by decide) k) ?_
    refine X8.retZ hx hlk hret (hb hby at_70) ?_ (by decide) (by decide)
    exact rfl

set_option maxRecDepth 65536 in
set_option maxHeartbeats 40000000 in
theorem comes_1 {Post : Tables → Env → Array Value → State → Outcome → State → Prop} (hpost : ∀ tb e args s v u, (limb_1_1.after args s (.returned v) u = true ∧ limb_1_2.after args s (.returned v) u = true ∧ True) → FrameEnd s (.returned v) u (Jvm.fieldLocs frame_1_writes args s ++ Jvm.arrayLocs frame_1_arrays args s ++ Jvm.staticLocs frame_1_statics s) 24 320 → Post tb e args s (.returned v) u) :
    ArmFor flags0 classFile x code maxLocals ret World_1 tables_1 room_1 Calls_1 rest_1 Pre_1 Post := by
  intro l hfl _ _ p e ha hc hk s m args below hf hA hF happ hP
  obtain ⟨hcalls, hrest, hpre⟩ := hP
  obtain ⟨-, -, -, hnamed, -, -, -, hat⟩ := (Spec.applies_iff hf).mp happ
  obtain ⟨hg, hn⟩ := and_e (Cond.before_iff.mp (show (Jvm.Cond.and given_1 narrow_1).before args s = true from hpre))
  obtain ⟨g1, g2⟩ := and_e hg
  obtain ⟨g3, g4⟩ := and_e g2
  obtain ⟨g5, g6⟩ := and_e g4
  obtain ⟨w0, w1, w2, rfl⟩ : ∃ w0 w1 w2 : Value, args = #[w0, w1, w2] := by
    have hs : args.size = 3 := by simpa [Cond.value, given_1] using g1
    obtain ⟨L⟩ := args
    match L, hs with
    | [w0, w1, w2], _ => exact ⟨w0, w1, w2, rfl⟩
  have hw := fun d (hd : d ∈ tables_1) => atoms_spec (ws := Jvm.Cond.code x code maxLocals ret :: tables_1) hat d (List.mem_cons_of_mem _ hd)
  obtain ⟨i0, ei0⟩ := is_v g3
  obtain rfl : w0 = (.int i0) := Option.some.inj ei0
  obtain ⟨i1, ei1⟩ := is_v g5
  obtain rfl : w1 = (.int i1) := Option.some.inj ei1
  obtain ⟨i2, ei2⟩ := is_v g6
  obtain rfl : w2 = (.int i2) := Option.some.inj ei2
  obtain ⟨n, o, h1, h2, h3, _, L, rfl, ⟨N, rfl⟩, hq⟩ := own_rm0 l s _ hw tables_1 s.heap i0 i1 i2  p e ha hc hk s m _ below hf ((Spec.applies_iff_loose hf).mp happ).1 ⟨rfl, State.Warmed39.refl s, rfl⟩ trivial
  refine ⟨n, _, h1, h2, h3, hpost _ _ _ _ _ _ ⟨Cond.after_iff.mpr rfl, Cond.after_iff.mpr (eq_i res_at (Term.int_eval (1)) rfl), trivial⟩ ⟨hq.1, hq.2.1, (hq.2.2.sift fun y hy => Or.inr (N y hy)).mono (by decide) (by decide)⟩⟩
theorem main_1_1 : Claimed_1_1 := comes_1 fun _ _ _ _ _ _ h hF => ⟨h.1, hF⟩
theorem main_1_2 : Claimed_1_2 := comes_1 fun _ _ _ _ _ _ h hF => ⟨h.2.1, hF⟩
end Jvm.Pilot.@@N@@
namespace Jvm.Pilot.@@N@@
open Jvm Jvm.ClassFile Sem Op Lib Jvm.Free Jvm.Stand Jvm.Pilot.@@N@@.Jvm.D
/-! MADE BY PROGRAM (witnessworld.py) out of the Statement's table words and the real class files: 17 classes; the members and pool entries that the words name. The judged class is class 1, her method 1. -/
namespace start1
open Jvm.ClassFile
def u (s : String) : CpInfo := .utf8 (stringToUtf16 s)
/-- a pool by its gaps: so many unusable entries, then the entry; so many at the end -/
def gap : Nat → List CpInfo → List CpInfo
  | 0, r => r
  | n + 1, r => .unusable :: gap n r
def poolList (es : List (Nat × CpInfo)) (last : Nat) : List CpInfo := es.foldr (fun e r => gap e.1 (e.2 :: r)) (gap last [])
def pool (es : List (Nat × CpInfo)) (last : Nat) : Array CpInfo := ⟨poolList es last⟩
def fileOf (pool : Array CpInfo) (this : Nat) (attrs : Array Attribute := #[]) (ms : Array MethodInfo := #[]) (fl : Nat := 33) (sup : Nat := 0) (ifs : Array Nat := #[]) (fds : Array FieldInfo := #[]) : ClassFile where
  minorVersion := 0
  majorVersion := 65
  constantPool := pool
  accessFlags := fl
  thisClass := this
  superClass := sup
  interfaces := ifs
  fields := fds
  methods := ms
  attributes := attrs
def plain (name : String) (sup : Option ClassId) : Class where
  name := name
  kind := .ordinary
  loader := none
  accessFlags := 33
  super := sup
  interfaces := #[]
  cf := none
  fields := #[]
  methods := #[]
  instanceTypes := #[]
  staticTypes := #[]
  resolved := #[]
  callSites := []
  init := .initialized
  statics := none
  mirror := none

def pool0 : Array CpInfo := pool [(5, u "<init>"), (0, u "()V"), (1, .class_ 10), (1, u "java/lang/Object")] 113

def k0c0 : Code := { maxStack := 0, maxLocals := 1, code := object_method_1_code, exceptionTable := #[], attributes := #[] }
def k0m0 : Method := { name := "<init>", desc := "()V", sig := { parameters := [], returnType := none }, accessFlags := 1, code := some k0c0 }
/-- java/lang/Object -/
def k0 : Class := { plain "java/lang/Object" none with
  accessFlags := 33
  interfaces := #[]
  cf := some (fileOf pool0 8 #[] #[{ accessFlags := 1, nameIndex := 5, descriptorIndex := 6, attributes := #[] }] 33 0 #[] #[])
  fields := #[]
  methods := #[k0m0]
  instanceTypes := #[]
  staticTypes := #[]
  resolved := Array.replicate 124 none
  statics := none }

def pool1 : Array CpInfo := pool [(2, .class_ 4), (1, u "java/lang/Object"), (0, u "<init>"), (0, u "()V"), (0, .integer 2147483647), (0, .methodref 9 10), (0, .class_ 11), (0, .nameAndType 12 13), (0, u "java/lang/Math"), (0, u "max"), (0, u "(JJ)J"), (0, .methodref 15 16), (0, .class_ 17), (0, .nameAndType 18 19), (0, u "com/example/load_across_peers/loadacrosspeers/internal/pick/AliasTableColumnsPinLaw"), (0, u "weights"), (0, u "(IJJ)[J"), (0, .class_ 21), (0, u "com/example/load_across_peers/loadacrosspeers/internal/pick/AliasTable"), (0, .methodref 20 23), (0, .nameAndType 5 24), (0, u "([J)V"), (0, .methodref 20 26), (0, .nameAndType 27 28), (0, u "columns"), (0, u "()I"), (0, .methodref 15 30), (0, .nameAndType 31 32), (0, u "expected"), (0, u "(I)I"), (2, u "law"), (0, u "(III)Z")] 5

def k1m0 : Method := { name := "<init>", desc := "()V", sig := { parameters := [], returnType := none }, accessFlags := 2, code := none }
def k1c1 : Code := { maxStack := 5, maxLocals := 11, code := code, exceptionTable := #[], attributes := #[] }
def k1m1 : Method := { name := "law", desc := "(III)Z", sig := { parameters := [.int, .int, .int], returnType := some .boolean }, accessFlags := 9, code := some k1c1 }
def k1c2 : Code := { maxStack := 2, maxLocals := 1, code := method_3_code, exceptionTable := #[], attributes := #[] }
def k1m2 : Method := { name := "expected", desc := "(I)I", sig := { parameters := [.int], returnType := some .int }, accessFlags := 10, code := some k1c2 }
def k1c3 : Code := { maxStack := 4, maxLocals := 6, code := method_4_code, exceptionTable := #[], attributes := #[] }
def k1m3 : Method := { name := "weights", desc := "(IJJ)[J", sig := { parameters := [.int, .long, .long], returnType := some (.array .long) }, accessFlags := 10, code := some k1c3 }
/-- com/example/load_across_peers/loadacrosspeers/internal/pick/AliasTableColumnsPinLaw -/
def k1 : Class := { plain "com/example/load_across_peers/loadacrosspeers/internal/pick/AliasTableColumnsPinLaw" (some 0) with
  accessFlags := 49
  interfaces := #[]
  cf := some (fileOf pool1 15 #[] #[{ accessFlags := 2, nameIndex := 5, descriptorIndex := 6, attributes := #[] }, { accessFlags := 9, nameIndex := 35, descriptorIndex := 36, attributes := #[] }, { accessFlags := 10, nameIndex := 31, descriptorIndex := 32, attributes := #[] }, { accessFlags := 10, nameIndex := 18, descriptorIndex := 19, attributes := #[] }] 49 2 #[] #[])
  fields := #[]
  methods := #[k1m0, k1m1, k1m2, k1m3]
  instanceTypes := #[]
  staticTypes := #[]
  resolved := Array.replicate 42 none
  statics := none }

def pool2 : Array CpInfo := pool [(1, .class_ 2), (0, u "java/lang/Math"), (1, .class_ 6), (1, u "java/lang/Object"), (0, u "<init>"), (0, u "()V"), (89, .class_ 100), (1, u "java/lang/Math$RandomNumberGeneratorHolder"), (20, u "(JJ)J"), (50, u "negativeZeroFloatBits"), (0, u "J"), (2, u "negativeZeroDoubleBits"), (21, u "max"), (46, u "$assertionsDisabled"), (0, u "Z"), (91, u "twoToTheDoubleScaleDown"), (0, u "D"), (4, u "twoToTheDoubleScaleUp"), (9, u "E"), (3, u "PI"), (2, u "TAU"), (2, u "DEGREES_TO_RADIANS"), (0, u "RADIANS_TO_DEGREES")] 94

def k2m0 : Method := { name := "<init>", desc := "()V", sig := { parameters := [], returnType := none }, accessFlags := 2, code := none }
def k2c1 : Code := { maxStack := 4, maxLocals := 4, code := jdk_29_method_66_code, exceptionTable := #[], attributes := #[] }
def k2m1 : Method := { name := "max", desc := "(JJ)J", sig := { parameters := [.long, .long], returnType := some .long }, accessFlags := 9, code := some k2c1 }
/-- java/lang/Math -/
def k2 : Class := { plain "java/lang/Math" (some 0) with
  accessFlags := 49
  interfaces := #[]
  cf := some (fileOf pool2 1 #[.nestMembers #[98]] #[{ accessFlags := 2, nameIndex := 7, descriptorIndex := 8, attributes := #[] }, { accessFlags := 9, nameIndex := 198, descriptorIndex := 121, attributes := #[] }] 49 4 #[] #[{ accessFlags := 25, nameIndex := 354, descriptorIndex := 339, attributes := #[] }, { accessFlags := 25, nameIndex := 358, descriptorIndex := 339, attributes := #[] }, { accessFlags := 25, nameIndex := 361, descriptorIndex := 339, attributes := #[] }, { accessFlags := 26, nameIndex := 364, descriptorIndex := 339, attributes := #[] }, { accessFlags := 26, nameIndex := 365, descriptorIndex := 339, attributes := #[] }, { accessFlags := 26, nameIndex := 172, descriptorIndex := 173, attributes := #[] }, { accessFlags := 26, nameIndex := 176, descriptorIndex := 173, attributes := #[] }, { accessFlags := 8, nameIndex := 344, descriptorIndex := 339, attributes := #[] }, { accessFlags := 8, nameIndex := 338, descriptorIndex := 339, attributes := #[] }, { accessFlags := 4120, nameIndex := 245, descriptorIndex := 246, attributes := #[] }])
  fields := #[{ name := "E", type := .double, accessFlags := 25, slot := 0, constantValue := 0 }, { name := "PI", type := .double, accessFlags := 25, slot := 1, constantValue := 0 }, { name := "TAU", type := .double, accessFlags := 25, slot := 2, constantValue := 0 }, { name := "DEGREES_TO_RADIANS", type := .double, accessFlags := 26, slot := 3, constantValue := 0 }, { name := "RADIANS_TO_DEGREES", type := .double, accessFlags := 26, slot := 4, constantValue := 0 }, { name := "negativeZeroFloatBits", type := .long, accessFlags := 26, slot := 5, constantValue := 0 }, { name := "negativeZeroDoubleBits", type := .long, accessFlags := 26, slot := 6, constantValue := 0 }, { name := "twoToTheDoubleScaleUp", type := .double, accessFlags := 8, slot := 7, constantValue := 0 }, { name := "twoToTheDoubleScaleDown", type := .double, accessFlags := 8, slot := 8, constantValue := 0 }, { name := "$assertionsDisabled", type := .boolean, accessFlags := 4120, slot := 9, constantValue := 0 }]
  methods := #[k2m0, k2m1]
  instanceTypes := #[]
  staticTypes := #[.double, .double, .double, .double, .double, .long, .long, .double, .double, .boolean]
  resolved := Array.replicate 460 none
  statics := none }

def pool3 : Array CpInfo := pool [(1, .class_ 2), (0, u "com/example/load_across_peers/loadacrosspeers/internal/pick/AliasTable"), (2, .methodref 6 7), (0, .class_ 8), (0, .nameAndType 9 10), (0, u "java/lang/Object"), (0, u "<init>"), (0, u "()V"), (0, .methodref 12 13), (0, .class_ 14), (0, .nameAndType 15 16), (0, u "java/lang/Integer"), (0, u "highestOneBit"), (0, u "(I)I"), (0, .methodref 12 18), (0, .nameAndType 19 16), (0, u "numberOfTrailingZeros"), (0, .fieldref 1 21), (0, .nameAndType 22 23), (0, u "shift"), (0, u "I"), (0, .fieldref 1 25), (0, .nameAndType 26 27), (0, u "total"), (0, u "J"), (0, .long 8589934592), (1, .fieldref 1 31), (0, .nameAndType 32 33), (0, u "packed"), (0, u "[J"), (0, .fieldref 1 35), (0, .nameAndType 36 33), (0, u "thresholds"), (0, .fieldref 1 38), (0, .nameAndType 39 40), (0, u "aliases"), (0, u "[I"), (18, u "ALIAS_BITS"), (2, u "ALIAS_MASK"), (0, u "MOST_PACKED_TOTAL"), (0, u "([J)V"), (7, u "columns"), (0, u "()I")] 2

def k3c0 : Code := { maxStack := 8, maxLocals := 14, code := prog_10_method_1_code, exceptionTable := #[], attributes := #[] }
def k3m0 : Method := { name := "<init>", desc := "([J)V", sig := { parameters := [(.array .long)], returnType := none }, accessFlags := 0, code := some k3c0 }
def k3c1 : Code := { maxStack := 1, maxLocals := 1, code := prog_10_method_4_code, exceptionTable := #[], attributes := #[] }
def k3m1 : Method := { name := "columns", desc := "()I", sig := { parameters := [], returnType := some .int }, accessFlags := 0, code := some k3c1 }
/-- com/example/load_across_peers/loadacrosspeers/internal/pick/AliasTable -/
def k3 : Class := { plain "com/example/load_across_peers/loadacrosspeers/internal/pick/AliasTable" (some 0) with
  accessFlags := 48
  interfaces := #[]
  cf := some (fileOf pool3 1 #[] #[{ accessFlags := 0, nameIndex := 9, descriptorIndex := 64, attributes := #[] }, { accessFlags := 0, nameIndex := 72, descriptorIndex := 73, attributes := #[] }] 48 6 #[] #[{ accessFlags := 26, nameIndex := 59, descriptorIndex := 23, attributes := #[] }, { accessFlags := 26, nameIndex := 62, descriptorIndex := 27, attributes := #[] }, { accessFlags := 26, nameIndex := 63, descriptorIndex := 27, attributes := #[] }, { accessFlags := 18, nameIndex := 32, descriptorIndex := 33, attributes := #[] }, { accessFlags := 18, nameIndex := 36, descriptorIndex := 33, attributes := #[] }, { accessFlags := 18, nameIndex := 39, descriptorIndex := 40, attributes := #[] }, { accessFlags := 18, nameIndex := 22, descriptorIndex := 23, attributes := #[] }, { accessFlags := 18, nameIndex := 26, descriptorIndex := 27, attributes := #[] }])
  fields := #[{ name := "ALIAS_BITS", type := .int, accessFlags := 26, slot := 0, constantValue := 0 }, { name := "ALIAS_MASK", type := .long, accessFlags := 26, slot := 1, constantValue := 0 }, { name := "MOST_PACKED_TOTAL", type := .long, accessFlags := 26, slot := 2, constantValue := 0 }, { name := "packed", type := (.array .long), accessFlags := 18, slot := 0, constantValue := 0 }, { name := "thresholds", type := (.array .long), accessFlags := 18, slot := 1, constantValue := 0 }, { name := "aliases", type := (.array .int), accessFlags := 18, slot := 2, constantValue := 0 }, { name := "shift", type := .int, accessFlags := 18, slot := 3, constantValue := 0 }, { name := "total", type := .long, accessFlags := 18, slot := 4, constantValue := 0 }]
  methods := #[k3m0, k3m1]
  instanceTypes := #[(.array .long), (.array .long), (.array .int), .int, .long]
  staticTypes := #[.int, .long, .long]
  resolved := Array.replicate 76 none
  statics := none }

def pool4 : Array CpInfo := pool [(1, .class_ 2), (0, u "java/io/Serializable"), (0, .class_ 4), (0, u "java/lang/Object")] 2

/-- java/io/Serializable -/
def k4 : Class := { plain "java/io/Serializable" (some 0) with
  accessFlags := 1537
  interfaces := #[]
  cf := some (fileOf pool4 1 #[] #[] 1537 3 #[] #[])
  fields := #[]
  methods := #[]
  instanceTypes := #[]
  staticTypes := #[]
  resolved := Array.replicate 7 none
  statics := none }

def pool5 : Array CpInfo := pool [(2, .class_ 4), (1, u "java/lang/Object"), (0, u "<init>"), (0, u "()V"), (1, .class_ 10), (1, u "java/lang/Number"), (2, .class_ 14), (0, u "java/io/Serializable"), (0, u "serialVersionUID"), (0, u "J")] 20

def k5m0 : Method := { name := "<init>", desc := "()V", sig := { parameters := [], returnType := none }, accessFlags := 1, code := none }
/-- java/lang/Number -/
def k5 : Class := { plain "java/lang/Number" (some 0) with
  accessFlags := 1057
  interfaces := #[4]
  cf := some (fileOf pool5 8 #[] #[{ accessFlags := 1, nameIndex := 5, descriptorIndex := 6, attributes := #[] }] 1057 2 #[13] #[{ accessFlags := 26, nameIndex := 15, descriptorIndex := 16, attributes := #[] }])
  fields := #[{ name := "serialVersionUID", type := .long, accessFlags := 26, slot := 0, constantValue := 0 }]
  methods := #[k5m0]
  instanceTypes := #[]
  staticTypes := #[.long]
  resolved := Array.replicate 37 none
  statics := none }

def pool6 : Array CpInfo := pool [(1, .class_ 2), (0, u "java/lang/Comparable"), (0, .class_ 4), (0, u "java/lang/Object")] 7

/-- java/lang/Comparable -/
def k6 : Class := { plain "java/lang/Comparable" (some 0) with
  accessFlags := 1537
  interfaces := #[]
  cf := some (fileOf pool6 1 #[] #[] 1537 3 #[] #[])
  fields := #[]
  methods := #[]
  instanceTypes := #[]
  staticTypes := #[]
  resolved := Array.replicate 12 none
  statics := none }

def pool7 : Array CpInfo := pool [(1, .class_ 2), (0, u "java/lang/constant/Constable"), (0, .class_ 4), (0, u "java/lang/Object")] 6

/-- java/lang/constant/Constable -/
def k7 : Class := { plain "java/lang/constant/Constable" (some 0) with
  accessFlags := 1537
  interfaces := #[]
  cf := some (fileOf pool7 1 #[] #[] 1537 3 #[] #[])
  fields := #[]
  methods := #[]
  instanceTypes := #[]
  staticTypes := #[]
  resolved := Array.replicate 11 none
  statics := none }

def pool8 : Array CpInfo := pool [(1, .class_ 2), (0, u "java/lang/constant/ConstantDesc"), (0, .class_ 4), (0, u "java/lang/Object")] 32

/-- java/lang/constant/ConstantDesc -/
def k8 : Class := { plain "java/lang/constant/ConstantDesc" (some 0) with
  accessFlags := 1537
  interfaces := #[]
  cf := some (fileOf pool8 1 #[] #[] 1537 3 #[] #[])
  fields := #[]
  methods := #[]
  instanceTypes := #[]
  staticTypes := #[]
  resolved := Array.replicate 37 none
  statics := none }

def pool9 : Array CpInfo := pool [(1, .class_ 2), (0, u "java/lang/Integer"), (16, u "digits"), (0, u "[C"), (30, .methodref 1 52), (0, .nameAndType 53 54), (0, u "numberOfLeadingZeros"), (0, u "(I)I"), (30, u "DigitOnes"), (0, u "[B"), (2, u "DigitTens"), (37, .integer 2147483648), (61, .class_ 190), (0, u "java/lang/Integer$IntegerCache"), (3, u "I"), (8, .class_ 204), (0, u "java/lang/Number"), (2, u "value"), (56, .integer 65536), (37, u "TYPE"), (0, u "Ljava/lang/Class;"), (0, .class_ 305), (0, u "java/lang/Comparable"), (0, .class_ 307), (0, u "java/lang/constant/Constable"), (0, .class_ 309), (0, u "java/lang/constant/ConstantDesc"), (0, u "MIN_VALUE"), (1, u "MAX_VALUE"), (3, u "SIZE"), (1, u "BYTES"), (1, u "serialVersionUID"), (0, u "J"), (81, u "highestOneBit"), (2, u "numberOfTrailingZeros")] 46

def k9c0 : Code := { maxStack := 3, maxLocals := 1, code := jdk_33_method_45_code, exceptionTable := #[], attributes := #[] }
def k9m0 : Method := { name := "highestOneBit", desc := "(I)I", sig := { parameters := [.int], returnType := some .int }, accessFlags := 9, code := some k9c0 }
def k9c1 : Code := { maxStack := 3, maxLocals := 2, code := jdk_33_method_47_code, exceptionTable := #[], attributes := #[] }
def k9m1 : Method := { name := "numberOfLeadingZeros", desc := "(I)I", sig := { parameters := [.int], returnType := some .int }, accessFlags := 9, code := some k9c1 }
def k9c2 : Code := { maxStack := 3, maxLocals := 2, code := jdk_33_method_48_code, exceptionTable := #[], attributes := #[] }
def k9m2 : Method := { name := "numberOfTrailingZeros", desc := "(I)I", sig := { parameters := [.int], returnType := some .int }, accessFlags := 9, code := some k9c2 }
/-- java/lang/Integer -/
def k9 : Class := { plain "java/lang/Integer" (some 5) with
  accessFlags := 49
  interfaces := #[6, 7, 8]
  cf := some (fileOf pool9 1 #[.nestMembers #[189]] #[{ accessFlags := 9, nameIndex := 403, descriptorIndex := 54, attributes := #[] }, { accessFlags := 9, nameIndex := 53, descriptorIndex := 54, attributes := #[] }, { accessFlags := 9, nameIndex := 406, descriptorIndex := 54, attributes := #[] }] 49 203 #[304, 306, 308] #[{ accessFlags := 25, nameIndex := 310, descriptorIndex := 194, attributes := #[] }, { accessFlags := 25, nameIndex := 312, descriptorIndex := 194, attributes := #[] }, { accessFlags := 25, nameIndex := 302, descriptorIndex := 303, attributes := #[] }, { accessFlags := 24, nameIndex := 19, descriptorIndex := 20, attributes := #[] }, { accessFlags := 24, nameIndex := 89, descriptorIndex := 86, attributes := #[] }, { accessFlags := 24, nameIndex := 85, descriptorIndex := 86, attributes := #[] }, { accessFlags := 18, nameIndex := 207, descriptorIndex := 194, attributes := #[] }, { accessFlags := 25, nameIndex := 316, descriptorIndex := 194, attributes := #[] }, { accessFlags := 25, nameIndex := 318, descriptorIndex := 194, attributes := #[] }, { accessFlags := 26, nameIndex := 320, descriptorIndex := 321, attributes := #[] }])
  fields := #[{ name := "MIN_VALUE", type := .int, accessFlags := 25, slot := 0, constantValue := 0 }, { name := "MAX_VALUE", type := .int, accessFlags := 25, slot := 1, constantValue := 0 }, { name := "TYPE", type := (.object "java/lang/Class"), accessFlags := 25, slot := 2, constantValue := 0 }, { name := "digits", type := (.array .char), accessFlags := 24, slot := 3, constantValue := 0 }, { name := "DigitTens", type := (.array .byte), accessFlags := 24, slot := 4, constantValue := 0 }, { name := "DigitOnes", type := (.array .byte), accessFlags := 24, slot := 5, constantValue := 0 }, { name := "value", type := .int, accessFlags := 18, slot := 0, constantValue := 0 }, { name := "SIZE", type := .int, accessFlags := 25, slot := 6, constantValue := 0 }, { name := "BYTES", type := .int, accessFlags := 25, slot := 7, constantValue := 0 }, { name := "serialVersionUID", type := .long, accessFlags := 26, slot := 8, constantValue := 0 }]
  methods := #[k9m0, k9m1, k9m2]
  instanceTypes := #[.int]
  staticTypes := #[.int, .int, (.object "java/lang/Class"), (.array .char), (.array .byte), (.array .byte), .int, .int, .long]
  resolved := Array.replicate 453 none
  statics := none }

def pool10 : Array CpInfo := pool [(1, u "java/lang/Cloneable"), (0, .class_ 1), (0, u "java/lang/Object"), (0, .class_ 3)] 3

/-- java/lang/Cloneable -/
def k10 : Class := { plain "java/lang/Cloneable" (some 0) with
  accessFlags := 1537
  interfaces := #[]
  cf := some (fileOf pool10 2 #[] #[] 1537 4 #[] #[])
  fields := #[]
  methods := #[]
  instanceTypes := #[]
  staticTypes := #[]
  resolved := Array.replicate 8 none
  statics := none }

/-- the primitive byte -/
def k11 : Class := { plain "byte" none with kind := .primitive 'B', accessFlags := 0x411 }
/-- [B -/
def k12 : Class := { plain "[B" (some 0) with kind := .array 11 .byte, interfaces := #[10, 4], accessFlags := 1041 }

/-- the primitive int -/
def k13 : Class := { plain "int" none with kind := .primitive 'I', accessFlags := 0x411 }
/-- [I -/
def k14 : Class := { plain "[I" (some 0) with kind := .array 13 .int, interfaces := #[10, 4], accessFlags := 1041 }

/-- the primitive long -/
def k15 : Class := { plain "long" none with kind := .primitive 'J', accessFlags := 0x411 }
/-- [J -/
def k16 : Class := { plain "[J" (some 0) with kind := .array 15 .long, interfaces := #[10, 4], accessFlags := 1041 }

def heap : Heap := #[]
def classes : Array Class := #[k0, k1, k2, k3, k4, k5, k6, k7, k8, k9, k10, k11, k12, k13, k14, k15, k16]
def interned : List (Array UInt16 × Addr) := []
def slotsUsed : Nat := 0
def theMethod : MethodId := ⟨1, 1⟩
def args0 : Array Value := #[.int 3, .int 5, .int 7]
def aboutOver (below : List Frame) : State where
  vm := { classes := classes, interned := interned.toArray }
  heap := heap
  slotsUsed := slotsUsed
  threads := #[{ frames := .invoking theMethod args0 :: below }]
def below0 : List Frame := [.native { method := ⟨0, 0⟩, args := #[] }]
def about1 : State := aboutOver below0
def p0 : Program := .bare "" "" ""
def e0 : Env := launch0.env 0 0 0
theorem w_frames : about1.frames = Frame.invoking theMethod args0 :: below0 := rfl
set_option maxRecDepth 65536 in
theorem w_args : argsFit about1.vm theMethod args0 = true := by decide +kernel
set_option maxRecDepth 65536 in
theorem w_heap : heapFits about1 = true := by decide +kernel
set_option maxRecDepth 65536 in
theorem w_runnable : about1.curStatus? = some .runnable := by decide +kernel
set_option maxRecDepth 65536 in
theorem w_alone : about1.alone = true := by decide +kernel
set_option maxRecDepth 65536 in
theorem w_named : about1.methodNamed? x = some theMethod := by decide +kernel
set_option maxRecDepth 65536 in
theorem w_hears : about1.hears theMethod below0 = true := by decide +kernel
set_option maxRecDepth 65536 in
theorem w_ripe : about1.ripe theMethod args0 below0 = true := by decide +kernel
theorem w_running : about1.status = .running := rfl
set_option maxRecDepth 65536 in
theorem w_room : about1.hasRoom e0.platform room_1 = true :=
  launch0.hasRoom_least _ room_1 (by decide +kernel) (by decide +kernel) (by decide +kernel) (by decide +kernel) (by decide +kernel) (by decide +kernel)
theorem allAtoms_all (ts : List Jvm.Cond) (a : Array Jvm.Value) (st : Jvm.State) : (allAtoms ts).before a st = ts.all (fun c => c.before a st) := by
  induction ts with
  | nil => rfl
  | cons c t ih =>
    show (Jvm.Cond.and c (allAtoms t)).before a st = _
    rw [Jvm.Cond.before_and, ih, List.all_cons]
def words1 : List Jvm.Cond := Jvm.Cond.code x code maxLocals ret :: tables_1
/-- a 'code' word, met by the world's own term for the bytes: nothing is compared byte by byte -/
theorem code_word {y : MethodName} {bytes : ByteArray} {mx : Nat} {rt : Option FieldType} {a : Array Value} {s : State} {m : MethodId} {meth : Method} {c : Code} (h1 : s.methodNamed? y = some m) (h2 : s.vm.method? m = some meth) (h3 : meth.code = some c) (h4 : c.code = bytes)
    (h5 : (c.maxLocals == mx && c.exceptionTable.isEmpty && decide (c.maxStack ≤ mostOperands) && decide (meth.sig.returnType = rt) && !meth.locks && decide (parseMethodDescriptor y.desc = some meth.sig)) = true) : (Jvm.Cond.code y bytes mx rt).before a s = true := by
  simp only [Bool.and_eq_true, beq_iff_eq, Bool.not_eq_true', decide_eq_true_eq] at h5
  obtain ⟨⟨⟨⟨⟨g1, g2⟩, g3⟩, g4⟩, g5⟩, g6⟩ := h5
  simp [Cond.before, Cond.holds, Cond.value, h1, h2, h3, h4, g1, g2, g3, g4, g5, g6]
def isCode : Jvm.Cond → Bool
  | .code _ _ _ _ => true
  | _ => false
theorem all_split {L : List Jvm.Cond} {P : Jvm.Cond → Bool} (h1 : L.all (fun c => isCode c || P c) = true) (h2 : ∀ c ∈ L.filter isCode, P c = true) : L.all P = true := by
  refine List.all_eq_true.mpr fun c hc => ?_
  have h := List.all_eq_true.mp h1 c hc
  rcases Bool.eq_false_or_eq_true (isCode c) with hi | hi
  · exact h2 c (List.mem_filter.mpr ⟨hc, hi⟩)
  · simpa [hi] using h
set_option maxRecDepth 65536 in
theorem w_c0 : (Jvm.Cond.code x code maxLocals ret).before args0 about1 = true := code_word (m := ⟨1, 1⟩) (meth := k1m1) (c := k1c1) (by decide +kernel) rfl rfl rfl (by decide +kernel)
set_option maxRecDepth 65536 in
theorem w_c1 : (Jvm.Cond.code ({ cls := "java/lang/Math", name := "max", desc := "(JJ)J" } : Jvm.MethodName) jdk_29_method_66_code (4 : Nat) (Option.some Jvm.ClassFile.FieldType.long)).before args0 about1 = true := code_word (m := ⟨2, 1⟩) (meth := k2m1) (c := k2c1) (by decide +kernel) rfl rfl rfl (by decide +kernel)
set_option maxRecDepth 65536 in
theorem w_c2 : (Jvm.Cond.code ({ cls := "com/example/load_across_peers/loadacrosspeers/internal/pick/AliasTableColumnsPinLaw", name := "weights", desc := "(IJJ)[J" } : Jvm.MethodName) method_4_code (6 : Nat) (Option.some (Jvm.ClassFile.FieldType.array Jvm.ClassFile.FieldType.long))).before args0 about1 = true := code_word (m := ⟨1, 3⟩) (meth := k1m3) (c := k1c3) (by decide +kernel) rfl rfl rfl (by decide +kernel)
set_option maxRecDepth 65536 in
theorem w_c3 : (Jvm.Cond.code ({ cls := "com/example/load_across_peers/loadacrosspeers/internal/pick/AliasTable", name := "<init>", desc := "([J)V" } : Jvm.MethodName) prog_10_method_1_code (14 : Nat) (Option.none : Option Jvm.ClassFile.FieldType)).before args0 about1 = true := code_word (m := ⟨3, 0⟩) (meth := k3m0) (c := k3c0) (by decide +kernel) rfl rfl rfl (by decide +kernel)
set_option maxRecDepth 65536 in
theorem w_c4 : (Jvm.Cond.code ({ cls := "java/lang/Object", name := "<init>", desc := "()V" } : Jvm.MethodName) object_method_1_code (1 : Nat) (Option.none : Option Jvm.ClassFile.FieldType)).before args0 about1 = true := code_word (m := ⟨0, 0⟩) (meth := k0m0) (c := k0c0) (by decide +kernel) rfl rfl rfl (by decide +kernel)
set_option maxRecDepth 65536 in
theorem w_c5 : (Jvm.Cond.code ({ cls := "java/lang/Integer", name := "numberOfTrailingZeros", desc := "(I)I" } : Jvm.MethodName) jdk_33_method_48_code (2 : Nat) (Option.some Jvm.ClassFile.FieldType.int)).before args0 about1 = true := code_word (m := ⟨9, 2⟩) (meth := k9m2) (c := k9c2) (by decide +kernel) rfl rfl rfl (by decide +kernel)
set_option maxRecDepth 65536 in
theorem w_c6 : (Jvm.Cond.code ({ cls := "com/example/load_across_peers/loadacrosspeers/internal/pick/AliasTable", name := "columns", desc := "()I" } : Jvm.MethodName) prog_10_method_4_code (1 : Nat) (Option.some Jvm.ClassFile.FieldType.int)).before args0 about1 = true := code_word (m := ⟨3, 1⟩) (meth := k3m1) (c := k3c1) (by decide +kernel) rfl rfl rfl (by decide +kernel)
set_option maxRecDepth 65536 in
theorem w_c7 : (Jvm.Cond.code ({ cls := "com/example/load_across_peers/loadacrosspeers/internal/pick/AliasTableColumnsPinLaw", name := "expected", desc := "(I)I" } : Jvm.MethodName) method_3_code (1 : Nat) (Option.some Jvm.ClassFile.FieldType.int)).before args0 about1 = true := code_word (m := ⟨1, 2⟩) (meth := k1m2) (c := k1c2) (by decide +kernel) rfl rfl rfl (by decide +kernel)
set_option maxRecDepth 65536 in
theorem w_c8 : (Jvm.Cond.code ({ cls := "java/lang/Integer", name := "highestOneBit", desc := "(I)I" } : Jvm.MethodName) jdk_33_method_45_code (1 : Nat) (Option.some Jvm.ClassFile.FieldType.int)).before args0 about1 = true := code_word (m := ⟨9, 0⟩) (meth := k9m0) (c := k9c0) (by decide +kernel) rfl rfl rfl (by decide +kernel)
set_option maxRecDepth 65536 in
theorem w_c9 : (Jvm.Cond.code ({ cls := "java/lang/Integer", name := "numberOfLeadingZeros", desc := "(I)I" } : Jvm.MethodName) jdk_33_method_47_code (2 : Nat) (Option.some Jvm.ClassFile.FieldType.int)).before args0 about1 = true := code_word (m := ⟨9, 1⟩) (meth := k9m1) (c := k9c1) (by decide +kernel) rfl rfl rfl (by decide +kernel)
def codes1 : List Jvm.Cond := [Jvm.Cond.code x code maxLocals ret, Jvm.Cond.code ({ cls := "java/lang/Math", name := "max", desc := "(JJ)J" } : Jvm.MethodName) jdk_29_method_66_code (4 : Nat) (Option.some Jvm.ClassFile.FieldType.long), Jvm.Cond.code ({ cls := "com/example/load_across_peers/loadacrosspeers/internal/pick/AliasTableColumnsPinLaw", name := "weights", desc := "(IJJ)[J" } : Jvm.MethodName) method_4_code (6 : Nat) (Option.some (Jvm.ClassFile.FieldType.array Jvm.ClassFile.FieldType.long)), Jvm.Cond.code ({ cls := "com/example/load_across_peers/loadacrosspeers/internal/pick/AliasTable", name := "<init>", desc := "([J)V" } : Jvm.MethodName) prog_10_method_1_code (14 : Nat) (Option.none : Option Jvm.ClassFile.FieldType), Jvm.Cond.code ({ cls := "java/lang/Object", name := "<init>", desc := "()V" } : Jvm.MethodName) object_method_1_code (1 : Nat) (Option.none : Option Jvm.ClassFile.FieldType), Jvm.Cond.code ({ cls := "java/lang/Integer", name := "numberOfTrailingZeros", desc := "(I)I" } : Jvm.MethodName) jdk_33_method_48_code (2 : Nat) (Option.some Jvm.ClassFile.FieldType.int), Jvm.Cond.code ({ cls := "com/example/load_across_peers/loadacrosspeers/internal/pick/AliasTable", name := "columns", desc := "()I" } : Jvm.MethodName) prog_10_method_4_code (1 : Nat) (Option.some Jvm.ClassFile.FieldType.int), Jvm.Cond.code ({ cls := "com/example/load_across_peers/loadacrosspeers/internal/pick/AliasTableColumnsPinLaw", name := "expected", desc := "(I)I" } : Jvm.MethodName) method_3_code (1 : Nat) (Option.some Jvm.ClassFile.FieldType.int), Jvm.Cond.code ({ cls := "java/lang/Integer", name := "highestOneBit", desc := "(I)I" } : Jvm.MethodName) jdk_33_method_45_code (1 : Nat) (Option.some Jvm.ClassFile.FieldType.int), Jvm.Cond.code ({ cls := "java/lang/Integer", name := "numberOfLeadingZeros", desc := "(I)I" } : Jvm.MethodName) jdk_33_method_47_code (2 : Nat) (Option.some Jvm.ClassFile.FieldType.int)]
set_option maxRecDepth 65536 in
theorem codes_eq : words1.filter isCode = codes1 := rfl
theorem w_codes : ∀ c ∈ words1.filter isCode, c.before args0 about1 = true := by
  rw [codes_eq]
  intro c hc
  simp only [codes1, List.mem_cons, List.not_mem_nil, or_false] at hc
  rcases hc with rfl | rfl | rfl | rfl | rfl | rfl | rfl | rfl | rfl | rfl
  · exact w_c0
  · exact w_c1
  · exact w_c2
  · exact w_c3
  · exact w_c4
  · exact w_c5
  · exact w_c6
  · exact w_c7
  · exact w_c8
  · exact w_c9
set_option maxRecDepth 65536 in
theorem w_t1 : (words1.take 24).all (fun c => isCode c || c.before args0 about1) = true := by decide +kernel
set_option maxRecDepth 65536 in
theorem w_t2 : ((words1.drop 24).take 24).all (fun c => isCode c || c.before args0 about1) = true := by decide +kernel
set_option maxRecDepth 65536 in
theorem w_t3 : ((words1.drop 24).drop 24).all (fun c => isCode c || c.before args0 about1) = true := by decide +kernel
theorem w_tables : (allAtoms (Jvm.Cond.code x code maxLocals ret :: tables_1)).before args0 about1 = true := by
  rw [allAtoms_all]
  show words1.all (fun c => c.before args0 about1) = true
  refine all_split ?_ w_codes
  rw [← List.take_append_drop 24 words1, List.all_append, w_t1, ← List.take_append_drop 24 (words1.drop 24), List.all_append, w_t2, w_t3]
  rfl
set_option maxRecDepth 65536 in
theorem w_case : (Jvm.Cond.and given_1 narrow_1).before args0 about1 = true := by decide +kernel
theorem w_applies : (headSpec (Jvm.Cond.code x code maxLocals ret :: tables_1) room_1).applies x e0.platform about1 = true :=
  (Spec.applies_iff w_frames).mpr ⟨w_running, w_runnable, w_alone, w_named, w_hears, w_ripe, w_room, w_tables⟩
theorem atStart : AtStart classFile x code maxLocals ret World_1 tables_1 room_1 Calls_1 rest_1 Pre_1 launch0 p0 e0 about1 theMethod args0 below0 :=
  ⟨lists_1, trivial, launch0.admits_env _ _ _, launch0.least_env, fairChoices_fair.cas, fairChoices_fair.clock, w_frames, w_args, w_heap, w_applies, trivial, trivial, w_case⟩
end start1
theorem witness_1 : WitnessClaimed_1 := ⟨start1.p0, start1.e0, start1.about1, start1.theMethod, start1.args0, start1.below0, start1.atStart⟩
end Jvm.Pilot.@@N@@
