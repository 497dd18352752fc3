import JvmDerived
import JvmDerived.Pilot.@@N@@Statement
import JvmDerived.Pilot.@@N@@Code
set_option linter.unusedVariables false
set_option linter.unusedSimpArgs false
@@BLOCK:NumsL.lean.txt@@
@@BLOCK:HandJ.lean.txt@@
@@BLOCK:SymMore.lean.txt@@
namespace Jvm.Pilot.@@N@@
open Jvm Jvm.ClassFile Sem Op Lib Jvm.Free Jvm.Stand Jvm.LawKit Jvm.RoadKit Bundle Jvm.Pilot.@@N@@.Jvm.D
/-- a long's slot, written short -/
abbrev jv (x : Int64) : Slot := .val (.long x)
section OwnKit
variable {p : Program} {l : Launch} {e : Env} {R : Room} {s : State} {m : MethodId} {args : Array Value} {below : List Frame} {meth : Method} {c : Code} {T T' : State} {locs : List Loc} {cells slots : Nat} {Q : Option Value → Heap → List Loc → Prop} {kc ks : Nat} {g : JFrame} {Z : State} {a0 : Array Value} {h : Heap}
/-- what is left to do, from the state T with the top frame g: the run comes to the invocation's end, returns, and the end is as Q says -/
def own_G (p : Program) (e : Env) (below : List Frame) (s : State) (Q : Option Value → Heap → List Loc → Prop) (kc ks : Nat) (T : State) (g : JFrame) : Prop :=
  ∃ t o, Steps p.tables e below (T.setTop g) t ∧ t.status = .running ∧ Ended t below o ∧ ∃ v L, o = .returned v ∧ Q v t.heap L ∧ FrameEnd s o t L kc ks
theorem own_go (g' : JFrame) (k : ∀ t, Steps p.tables e below (T'.setTop g') t → Steps p.tables e below (T.setTop g) t) (h : own_G p e below s Q kc ks T' g') : own_G p e below s Q kc ks T g := by
  obtain ⟨t, o, h1, h2⟩ := h
  exact ⟨t, o, k t h1, h2⟩
theorem own_out (X : Stand p l e R s m args below meth c T locs cells slots) (hlk : meth.locks = false) {v : Option Value} (hv : meth.sig.returnType = none → v = none)
    (st : ∀ fs, (∀ (f : JFrame) (acts : List Action), f.method = m → f.locked = none → f.entered = [] → (doReturn e (T.setTop f) acts v).1 = T.setFrames fs) → Steps p.tables e below (T.setTop g) (T.setFrames fs))
    (hQ : Q v T.heap locs) (h1 : cells ≤ kc) (h2 : slots ≤ ks) : own_G p e below s Q kc ks T g := by
  obtain ⟨fs, hr, hrun, hended, hW, hsame⟩ := X.leave (v := v) hv hlk
  exact ⟨_, _, st fs hr, hrun, hended, v, locs, rfl, hQ, ⟨_, rfl⟩, hW, hsame.mono h1 h2⟩
theorem own_retI (X : Stand p l e R s m args below meth c T locs cells slots) (hx : p.tables.exec = Jvm.exec) (hlk : meth.locks = false) (hret : meth.sig.returnType = some .int) {pc : Nat} {Ls : Array Slot} {z : Int32} {rest : List Value} (hd : decode c.code pc = .ok (.ireturn, 1))
    (hQ : Q (some (.int z)) T.heap locs) (h1 : cells ≤ kc) (h2 : slots ≤ ks) : own_G p e below s Q kc ks T (mkF m pc Ls (.int z :: rest)) := by
  refine own_out X hlk (v := some (.int z)) (fun h => by rw [hret] at h; cases h) (fun fs hl => ?_) hQ h1 h2
  have hm' : T.vm.method? m = some meth := X.method'
  have hn : narrow .int (.int z) = .int z := rfl
  show Steps p.tables e below (T.setTop { method := m, pc := pc, locals := Ls, stack := _ :: rest, locked := none }) _
  jvm_step X.here [X.here.top, hx, hd, hm', hret, hn]
  first | (intro acts; rw [hl _ acts rfl rfl rfl]) | rw [hl _ _ rfl rfl rfl]
  exact Steps.refl _
theorem own_retZ (X : Stand p l e R s m args below meth c T locs cells slots) (hx : p.tables.exec = Jvm.exec) (hlk : meth.locks = false) (hret : meth.sig.returnType = some .boolean) {pc : Nat} {Ls : Array Slot} {z : Int32} {rest : List Value} (hd : decode c.code pc = .ok (.ireturn, 1))
    (hQ : Q (some (.int (z &&& 1))) T.heap locs) (h1 : cells ≤ kc) (h2 : slots ≤ ks) : own_G p e below s Q kc ks T (mkF m pc Ls (.int z :: rest)) :=
  own_out X hlk (v := some (.int (z &&& 1))) (fun h => by rw [hret] at h; cases h) (fun fs hl => retN X hx (t := .boolean) hret (by simp) hd hl) hQ h1 h2
theorem own_retJ (X : Stand p l e R s m args below meth c T locs cells slots) (hx : p.tables.exec = Jvm.exec) (hlk : meth.locks = false) (hret : meth.sig.returnType = some .long) {pc : Nat} {Ls : Array Slot} {z : Int64} (hd : decode c.code pc = .ok (.lreturn, 1))
    (hQ : Q (some (.long z)) T.heap locs) (h1 : cells ≤ kc) (h2 : slots ≤ ks) : own_G p e below s Q kc ks T (mkF m pc Ls [.long z]) :=
  own_out X hlk (v := some (.long z)) (fun h => by rw [hret] at h; cases h) (fun fs hl => X.lreturnOut hx hret hd hl) hQ h1 h2
theorem own_retA (X : Stand p l e R s m args below meth c T locs cells slots) (hx : p.tables.exec = Jvm.exec) (hlk : meth.locks = false) {t : FieldType} (hret : meth.sig.returnType = some t) (ht : t.isReference = true) {pc : Nat} {Ls : Array Slot} {z : Value} (hz : z.isRef = true) (hd : decode c.code pc = .ok (.areturn, 1))
    (hQ : Q (some z) T.heap locs) (h1 : cells ≤ kc) (h2 : slots ≤ ks) : own_G p e below s Q kc ks T (mkF m pc Ls [z]) :=
  own_out X hlk (v := some z) (fun h => by rw [hret] at h; cases h) (fun fs hl => X.areturnOut hx hz hret ht hd hl) hQ h1 h2
theorem own_retV (X : Stand p l e R s m args below meth c T locs cells slots) (hx : p.tables.exec = Jvm.exec) (hlk : meth.locks = false) (hret : meth.sig.returnType = none) {pc : Nat} {Ls : Array Slot} (hd : decode c.code pc = .ok (.return_, 1))
    (hQ : Q none T.heap locs) (h1 : cells ≤ kc) (h2 : slots ≤ ks) : own_G p e below s Q kc ks T (mkF m pc Ls []) :=
  own_out X hlk (v := none) (fun _ => rfl) (fun fs hl => X.returnOut hx hret hd hl) hQ h1 h2
/-- a method's contract at one heap and one row of arguments -/
def own_C (l : Launch) (Z : State) (y : MethodName) (bytes : ByteArray) (mx : Nat) (ret : Option FieldType) (ws : List Jvm.Cond) (rm : Room) (as : Array Value) (h0 : Heap) (Q : Option Value → Heap → List Loc → Prop) : Prop :=
  MetFree l y (head1 (Jvm.Cond.code y bytes mx ret :: ws) rm) (fun a U => a = as ∧ Z.Warmed39 U.vm ∧ U.heap = h0) (fun _ _ _ _ _ => True) (fun _ U o U' => ∃ v L, o = .returned v ∧ Q v U'.heap L ∧ FrameEnd U o U' L rm.cells rm.slots)
theorem own_met {y : MethodName} {bytes : ByteArray} {mx : Nat} {ret : Option FieldType} {ws : List Jvm.Cond} {rm : Room} {as : Array Value} {h0 : Heap} (hp : plainFor y = true) (L0 : Array Slot) (hef : ∀ m, entryFrame m as mx = mkF m 0 L0 [])
    (body : ∀ (p : Program) (e : Env) (s : State) (m : MethodId) (below : List Frame) (meth : Method) (c : Code) (s₁ : State), p.tables.exec = Jvm.exec → c.code = bytes → c.maxLocals = mx → s.vm.findClass y.cls = some m.cls → meth.sig.returnType = ret → meth.locks = false → Z.Warmed39 s.vm → meth.name = y.name →
      Stand p l e rm s m as below meth c s₁ [] 0 0 → s₁.heap = h0 → own_G p e below s Q rm.cells rm.slots s₁ (mkF m 0 L0 [])) :
    own_C l Z y bytes mx ret ws rm as h0 Q := by
  refine MetFree.of_bodySF hp hisR ?_
  intro p e s m args below meth c s₁ Bd hml0 hP hK
  obtain ⟨rfl, hZ, hh⟩ := hP
  have hown : s.vm.findClass y.cls = some m.cls := findClass_of_methodNamed Bd.named
  have hnm := (name_of_methodNamed Bd.named Bd.method).1
  have X0 : Stand p l e rm s m args below meth c s₁ [] 0 0 := Stand.of_body Bd
  have e0 : s₁.heap = h0 := by rw [← hh, Bd.state]; rfl
  obtain ⟨t, o, h1, h2⟩ := body p e s m below meth c s₁ Bd.exec Bd.bytes hml0 hown Bd.returns Bd.notSynchronized hZ hnm X0 e0
  exact ⟨t, o, castTop (hef m) h1, h2⟩
/-- a static call by the callee's contract -/
theorem own_callS (X : Stand p l e R s m args below meth c T locs cells slots) (hx : p.tables.exec = Jvm.exec) (hZ : Z.Warmed39 s.vm) {own : String} {index : Nat} {y : MethodName} {bytes : ByteArray} {mx : Nat} {ret : Option FieldType} {rm : Room} {Qc : Option Value → Heap → List Loc → Prop}
    (hown : s.vm.findClass own = some m.cls) (w1 : (Jvm.Cond.methodLink own index y).before a0 Z = true) (w2 : (Jvm.Cond.static y).before a0 Z = true) (w3 : (Jvm.Cond.initialized y.cls).before a0 Z = true) (w4 : (Jvm.Cond.code y bytes mx ret).before a0 Z = true) (hy : y.cls ≠ "java/lang/invoke/MethodHandle" ∧ y.cls ≠ "java/lang/invoke/VarHandle")
    (eT : T.heap = h) (argsL rest : List Value) (hM : own_C l Z y bytes mx ret [] rm argsL.toArray h Qc) (W : Nat) (hf : rm.frames + 1 ≤ R.frames) (hlo : W + (mx + 11) + rm.locals ≤ R.locals) (hW : (rest.map fun v => v.category).sum ≤ W) (hc : cells + rm.cells ≤ R.cells) (hs : slots + rm.slots ≤ R.slots)
    {pc : Nat} {Ls : Array Slot} {S : List Value} (hsize : Ls.size = c.maxLocals) (hlen : ∀ sig, parseMethodDescriptor y.desc = some sig → argsL.length = sig.parameters.length) (hS : S = argsL.reverse ++ rest) (hd : decode c.code pc = .ok (.invokestatic index, 3))
    (k : ∀ (T' : State) (v : Option Value) (L : List Loc), Stand p l e R s m args below meth c T' (locs ++ L) (cells + rm.cells) (slots + rm.slots) → Qc v T'.heap L → own_G p e below s Q kc ks T' (mkF m (pc + 3) Ls (v.toList ++ rest))) :
    own_G p e below s Q kc ks T (mkF m pc Ls S) := by
  obtain ⟨v, _, ⟨T', L', k', n'⟩, -, X', ⟨L, hQ, q1, q2, q3⟩, st⟩ := Jvm.LawKit.callS X hx (y := y) hown (mvT hZ w1) (mvT hZ w2) (mvT hZ w3) (mvT hZ w4) hy (backOf (W := W) hM hZ w4 w3 hf hlo) (g := mkF m pc Ls S) rfl hsize (argsL := argsL) (rest := rest) hlen hS (by show 2 * 0 + _ ≤ _; omega) hd (fun _ _ => ⟨rfl, eT, hc, hs⟩)
  dsimp only [Pt.U, Pt.locs, Pt.cells, Pt.slots] at X' q1 q2 q3 st hQ
  subst q1 q2 q3
  exact own_go _ st (k T' v L X' hQ)
/-- what a pure method's end is: this value, the heap as it was, no place written -/
def own_P (r : Value) (h0 : Heap) (v : Option Value) (h : Heap) (L : List Loc) : Prop := v = some r ∧ h = h0 ∧ L = []
/-- a static call of a pure method -/
theorem own_callP (X : Stand p l e R s m args below meth c T locs cells slots) (hx : p.tables.exec = Jvm.exec) (hZ : Z.Warmed39 s.vm) {own : String} {index : Nat} {y : MethodName} {bytes : ByteArray} {mx : Nat} {ret : Option FieldType} {fr lo : Nat} {r : Value}
    (hown : s.vm.findClass own = some m.cls) (w1 : (Jvm.Cond.methodLink own index y).before a0 Z = true) (w2 : (Jvm.Cond.static y).before a0 Z = true) (w3 : (Jvm.Cond.initialized y.cls).before a0 Z = true) (w4 : (Jvm.Cond.code y bytes mx ret).before a0 Z = true) (hy : y.cls ≠ "java/lang/invoke/MethodHandle" ∧ y.cls ≠ "java/lang/invoke/VarHandle")
    (eT : T.heap = h) (argsL rest : List Value) (hM : own_C l Z y bytes mx ret [] { frames := fr, cells := 0, slots := 0, locals := lo } argsL.toArray h (own_P r h)) (W : Nat) (hf : fr + 1 ≤ R.frames) (hlo : W + (mx + 11) + lo ≤ R.locals) (hW : (rest.map fun v => v.category).sum ≤ W) (hc : cells ≤ R.cells) (hs : slots ≤ R.slots)
    {pc : Nat} {Ls : Array Slot} {S : List Value} (hsize : Ls.size = c.maxLocals) (hlen : ∀ sig, parseMethodDescriptor y.desc = some sig → argsL.length = sig.parameters.length) (hS : S = argsL.reverse ++ rest) (hd : decode c.code pc = .ok (.invokestatic index, 3))
    (k : ∀ (T' : State), Stand p l e R s m args below meth c T' locs cells slots → T'.heap = h → own_G p e below s Q kc ks T' (mkF m (pc + 3) Ls (r :: rest))) :
    own_G p e below s Q kc ks T (mkF m pc Ls S) := by
  refine own_callS X hx hZ hown w1 w2 w3 w4 hy eT argsL rest hM W hf hlo hW hc hs hsize hlen hS hd ?_
  rintro T' v L X' ⟨rfl, q2, rfl⟩
  rw [List.append_nil] at X'
  exact k T' X' q2
/-- a constructor's call -/
theorem own_callI (X : Stand p l e R s m args below meth c T locs cells slots) (hx : p.tables.exec = Jvm.exec) (hZ : Z.Warmed39 s.vm) {own : String} {index : Nat} {y : MethodName} {bytes : ByteArray} {mx : Nat} {rm : Room} {Qc : Option Value → Heap → List Loc → Prop} (hy1 : y.name = "<init>")
    (hown : s.vm.findClass own = some m.cls) (w1 : (Jvm.Cond.methodLink own index y).before a0 Z = true) (w2 : (Jvm.Cond.instanceMethod y).before a0 Z = true) (w3 : (Jvm.Cond.initialized y.cls).before a0 Z = true) (w4 : (Jvm.Cond.code y bytes mx none).before a0 Z = true) (hy : y.cls ≠ "java/lang/invoke/MethodHandle" ∧ y.cls ≠ "java/lang/invoke/VarHandle")
    (eT : T.heap = h) (a : Addr) (argsL rest : List Value) (hM : own_C l Z y bytes mx none [] rm (.ref a :: argsL).toArray h Qc) (W : Nat) (hf : rm.frames + 1 ≤ R.frames) (hlo : W + (mx + 11) + rm.locals ≤ R.locals) (hW : (rest.map fun v => v.category).sum ≤ W) (hc : cells + rm.cells ≤ R.cells) (hs : slots + rm.slots ≤ R.slots)
    {pc : Nat} {Ls : Array Slot} {S : List Value} (hsize : Ls.size = c.maxLocals) (hlen : ∀ sig, parseMethodDescriptor y.desc = some sig → argsL.length = sig.parameters.length) (hS : S = argsL.reverse ++ .ref a :: rest) (hd : decode c.code pc = .ok (.invokespecial index, 3))
    (k : ∀ (T' : State) (v : Option Value) (L : List Loc), Stand p l e R s m args below meth c T' (locs ++ L) (cells + rm.cells) (slots + rm.slots) → Qc v T'.heap L → own_G p e below s Q kc ks T' (mkF m (pc + 3) Ls (v.toList ++ rest))) :
    own_G p e below s Q kc ks T (mkF m pc Ls S) := by
  obtain ⟨v, _, ⟨T', L', k', n'⟩, -, X', ⟨L, hQ, q1, q2, q3⟩, st⟩ := X.specialBack hx (y := y) hy1 hown (mvT hZ w1) (mvT hZ w2) (mvT hZ w4) hy (backOf (W := W) hM hZ w4 w3 hf hlo) (g := mkF m pc Ls S) rfl hsize (Steps.refl _) (a := a) (argsL := argsL) (rest := rest) hlen hS (by show 2 * 0 + _ ≤ _; omega) hd (fun _ _ => ⟨rfl, eT, hc, hs⟩)
  dsimp only [Pt.U, Pt.locs, Pt.cells, Pt.slots] at X' q1 q2 q3 st hQ
  subst q1 q2 q3
  exact own_go _ (fun t kt => st.trans kt) (k T' v L X' hQ)
/-- an instance method's call -/
theorem own_callV (X : Stand p l e R s m args below meth c T locs cells slots) (hx : p.tables.exec = Jvm.exec) (hZ : Z.Warmed39 s.vm) {own C : String} {index : Nat} {y : MethodName} {bytes : ByteArray} {mx : Nat} {ret : Option FieldType} {rm : Room} {Qc : Option Value → Heap → List Loc → Prop}
    (hown : s.vm.findClass own = some m.cls) (w1 : (Jvm.Cond.methodLink own index y).before a0 Z = true) (w5 : (Jvm.Cond.declares y).before a0 Z = true) (w6 : (Jvm.Cond.selects C y y).before a0 Z = true) (w2 : (Jvm.Cond.instanceMethod y).before a0 Z = true) (w3 : (Jvm.Cond.initialized y.cls).before a0 Z = true) (w4 : (Jvm.Cond.code y bytes mx ret).before a0 Z = true) (hy : y.cls ≠ "java/lang/invoke/MethodHandle" ∧ y.cls ≠ "java/lang/invoke/VarHandle")
    (eT : T.heap = h) {a : Addr} (E : Exa Z h a C) (argsL rest : List Value) (hM : own_C l Z y bytes mx ret [] rm (.ref a :: argsL).toArray h Qc) (W : Nat) (hf : rm.frames + 1 ≤ R.frames) (hlo : W + (mx + 11) + rm.locals ≤ R.locals) (hW : (rest.map fun v => v.category).sum ≤ W) (hc : cells + rm.cells ≤ R.cells) (hs : slots + rm.slots ≤ R.slots)
    {pc : Nat} {Ls : Array Slot} {S : List Value} (hsize : Ls.size = c.maxLocals) (hlen : ∀ sig, parseMethodDescriptor y.desc = some sig → argsL.length = sig.parameters.length) (hS : S = argsL.reverse ++ .ref a :: rest) (hd : decode c.code pc = .ok (.invokevirtual index, 3))
    (k : ∀ (T' : State) (v : Option Value) (L : List Loc), Stand p l e R s m args below meth c T' (locs ++ L) (cells + rm.cells) (slots + rm.slots) → Qc v T'.heap L → own_G p e below s Q kc ks T' (mkF m (pc + 3) Ls (v.toList ++ rest))) :
    own_G p e below s Q kc ks T (mkF m pc Ls S) := by
  obtain ⟨cq, kq, qa, qb, qc⟩ := isOf hZ eT E
  obtain ⟨v, _, ⟨T', L', k', n'⟩, -, X', ⟨L, hQ, q1, q2, q3⟩, st⟩ := X.virtualBack hx (y := y) (z := y) hown (mvT hZ w1) (mvT hZ w5) (notFace_of_selects (args := #[]) (mvT hZ w6)) (mvT hZ w6) (mvT hZ w2) hy (backOf (W := W) hM hZ w4 w3 hf hlo) qa qc (g := mkF m pc Ls S) rfl hsize (Steps.refl _) (argsL := argsL) (rest := rest) hlen hS (by show 2 * 0 + _ ≤ _; omega) hd (fun _ _ => ⟨rfl, eT, hc, hs⟩)
  dsimp only [Pt.U, Pt.locs, Pt.cells, Pt.slots] at X' q1 q2 q3 st hQ
  subst q1 q2 q3
  exact own_go _ (fun t kt => st.trans kt) (k T' v L X' hQ)
end OwnKit
section OwnHeap
variable {p : Program} {l : Launch} {e : Env} {R : Room} {s : State} {m : MethodId} {args : Array Value} {below : List Frame} {meth : Method} {c : Code} {T T' : State} {locs : List Loc} {cells slots n0 : Nat} {Q : Option Value → Heap → List Loc → Prop} {kc ks : Nat} {g : JFrame} {Z : State} {a0 : Array Value} {h h' h0 : Heap} {a b : Addr} {vs : List Value} {ty : FieldType} {v w : Value} {sl pc : Nat} {Ls : Array Slot} {rest : List Value}
/-- the run stands here, and whatever was written lies in cells at or above n0 -/
def own_S (p : Program) (l : Launch) (e : Env) (R : Room) (s : State) (m : MethodId) (args : Array Value) (below : List Frame) (meth : Method) (c : Code) (n0 : Nat) (T : State) (cells slots : Nat) : Prop := ∃ locs, Stand p l e R s m args below meth c T locs cells slots ∧ Fr n0 locs
theorem own_S.of (X : Stand p l e R s m args below meth c T [] cells slots) (n0 : Nat) : own_S p l e R s m args below meth c n0 T cells slots := ⟨[], X, Fr.nil n0⟩
theorem own_S.here (X : own_S p l e R s m args below meth c n0 T cells slots) : At T m c below := X.elim fun _ q => q.1.here
theorem own_S.ldcInt (X : own_S p l e R s m args below meth c n0 T cells slots) (hx : p.tables.exec = Jvm.exec) {own : String} {index : Nat} {v : Int32} (hown : s.vm.findClass own = some m.cls)
    (hc : (Jvm.Cond.constant own index v).before args s = true) {g : JFrame} (hg : g.method = m) (hd : decode c.code g.pc = .ok (.ldc index, 2)) (t : State) (k : Steps p.tables e below (T.setTop { g with pc := g.pc + 2, stack := .int v :: g.stack }) t) : Steps p.tables e below (T.setTop g) t :=
  X.elim fun _ q => q.1.ldcInt hx hown hc hg hd t k
theorem own_S.ldcwInt (X : own_S p l e R s m args below meth c n0 T cells slots) (hx : p.tables.exec = Jvm.exec) {own : String} {index : Nat} {v : Int32} (hown : s.vm.findClass own = some m.cls)
    (hc : (Jvm.Cond.constant own index v).before args s = true) {g : JFrame} (hg : g.method = m) (hd : decode c.code g.pc = .ok (.ldc_w index, 3)) (t : State) (k : Steps p.tables e below (T.setTop { g with pc := g.pc + 3, stack := .int v :: g.stack }) t) : Steps p.tables e below (T.setTop g) t :=
  X.elim fun _ q => q.1.ldcwInt hx hown hc hg hd t k
theorem own_S.ldc2Long (X : own_S p l e R s m args below meth c n0 T cells slots) (hx : p.tables.exec = Jvm.exec) {own : String} {index : Nat} {v : Int64} (hown : s.vm.findClass own = some m.cls)
    (hc : (Jvm.Cond.constantLong own index v).before args s = true) {g : JFrame} (hg : g.method = m) (hd : decode c.code g.pc = .ok (.ldc2_w index, 3)) (t : State) (k : Steps p.tables e below (T.setTop { g with pc := g.pc + 3, stack := .long v :: g.stack }) t) : Steps p.tables e below (T.setTop g) t :=
  X.elim fun _ q => q.1.ldc2Long hx hown hc hg hd t k
theorem own_S.more (X : own_S p l e R s m args below meth c n0 T cells slots) {cells' slots' : Nat} (h1 : cells ≤ cells') (h2 : slots ≤ slots') : own_S p l e R s m args below meth c n0 T cells' slots' := X.elim fun L q => ⟨L, q.1.more h1 h2, q.2⟩
/-- what a contract with a heap says: the places written are new, and P -/
def own_Q (n0 : Nat) (P : Option Value → Heap → Prop) (v : Option Value) (h : Heap) (L : List Loc) : Prop := Fr n0 L ∧ P v h
theorem own_S.retI {P : Option Value → Heap → Prop} (X : own_S p l e R s m args below meth c n0 T cells slots) (hx : p.tables.exec = Jvm.exec) (hlk : meth.locks = false) (hret : meth.sig.returnType = some .int) {z : Int32} (hd : decode c.code pc = .ok (.ireturn, 1))
    (hQ : P (some (.int z)) T.heap) (h1 : cells ≤ kc) (h2 : slots ≤ ks) : own_G p e below s (own_Q n0 P) kc ks T (mkF m pc Ls (.int z :: rest)) := X.elim fun L q => own_retI q.1 hx hlk hret hd ⟨q.2, hQ⟩ h1 h2
theorem own_S.retZ {P : Option Value → Heap → Prop} (X : own_S p l e R s m args below meth c n0 T cells slots) (hx : p.tables.exec = Jvm.exec) (hlk : meth.locks = false) (hret : meth.sig.returnType = some .boolean) {z : Int32} (hd : decode c.code pc = .ok (.ireturn, 1))
    (hQ : P (some (.int (z &&& 1))) T.heap) (h1 : cells ≤ kc) (h2 : slots ≤ ks) : own_G p e below s (own_Q n0 P) kc ks T (mkF m pc Ls (.int z :: rest)) := X.elim fun L q => own_retZ q.1 hx hlk hret hd ⟨q.2, hQ⟩ h1 h2
theorem own_S.retJ {P : Option Value → Heap → Prop} (X : own_S p l e R s m args below meth c n0 T cells slots) (hx : p.tables.exec = Jvm.exec) (hlk : meth.locks = false) (hret : meth.sig.returnType = some .long) {z : Int64} (hd : decode c.code pc = .ok (.lreturn, 1))
    (hQ : P (some (.long z)) T.heap) (h1 : cells ≤ kc) (h2 : slots ≤ ks) : own_G p e below s (own_Q n0 P) kc ks T (mkF m pc Ls [.long z]) := X.elim fun L q => own_retJ q.1 hx hlk hret hd ⟨q.2, hQ⟩ h1 h2
theorem own_S.retA {P : Option Value → Heap → Prop} (X : own_S p l e R s m args below meth c n0 T cells slots) (hx : p.tables.exec = Jvm.exec) (hlk : meth.locks = false) {t : FieldType} (hret : meth.sig.returnType = some t) (ht : t.isReference = true) {z : Value} (hz : z.isRef = true) (hd : decode c.code pc = .ok (.areturn, 1))
    (hQ : P (some z) T.heap) (h1 : cells ≤ kc) (h2 : slots ≤ ks) : own_G p e below s (own_Q n0 P) kc ks T (mkF m pc Ls [z]) := X.elim fun L q => own_retA q.1 hx hlk hret ht hz hd ⟨q.2, hQ⟩ h1 h2
theorem own_S.retV {P : Option Value → Heap → Prop} (X : own_S p l e R s m args below meth c n0 T cells slots) (hx : p.tables.exec = Jvm.exec) (hlk : meth.locks = false) (hret : meth.sig.returnType = none) (hd : decode c.code pc = .ok (.return_, 1))
    (hQ : P none T.heap) (h1 : cells ≤ kc) (h2 : slots ≤ ks) : own_G p e below s (own_Q n0 P) kc ks T (mkF m pc Ls []) := X.elim fun L q => own_retV q.1 hx hlk hret hd ⟨q.2, hQ⟩ h1 h2
/-- fields -/
theorem own_S.getF (X : own_S p l e R s m args below meth c n0 T cells slots) (hx : p.tables.exec = Jvm.exec) (hZ : Z.Warmed39 s.vm) {own C n d : String} {index : Nat} (hown : s.vm.findClass own = some m.cls) (w1 : (Jvm.Cond.fieldLink own index C n d).before a0 Z = true) (eT : T.heap = h) (F : Fld Z h a C n d v) (hd : decode c.code pc = .ok (.getfield index, 3))
    (k : ∀ T', own_S p l e R s m args below meth c n0 T' cells slots → T'.heap = h → own_G p e below s Q kc ks T' (mkF m (pc + 3) Ls (v :: rest))) : own_G p e below s Q kc ks T (mkF m pc Ls (.ref a :: rest)) := by
  obtain ⟨locs, Y, N⟩ := X
  obtain ⟨T', Y', e', st⟩ := Jvm.RoadKit.getF Y hx hZ hown (host := "") (Or.inl w1) Via.refl eT F (g := mkF m pc Ls (.ref a :: rest)) rfl rfl hd
  exact own_go _ st (k T' ⟨locs, Y', N⟩ e')
theorem own_S.putF (X : own_S p l e R s m args below meth c n0 T cells slots) (hx : p.tables.exec = Jvm.exec) (hZ : Z.Warmed39 s.vm) {own C n d : String} {index kk : Nat} {ty : FieldType} (hown : s.vm.findClass own = some m.cls) (w1 : (Jvm.Cond.fieldLink own index C n d).before a0 Z = true) (eT : T.heap = h) {old : Value} (F : Fld Z h a C n d old) (E : Exa Z h a C) (g0 : n0 ≤ a)
    (L : (Jvm.Cond.lays C C n d).before a0 Z = true ∨ ((Jvm.Cond.laysFinal C C n d).before a0 Z = true ∧ own = C ∧ meth.name = "<init>")) (wi : (Jvm.Cond.instantiable C kk).before a0 Z = true) (hty : parseFieldDescriptor d = some ty) (hn : narrow ty v = v) (hf : fits ty v = true) (hd : decode c.code pc = .ok (.putfield index, 3))
    (k : ∀ T' h', own_S p l e R s m args below meth c n0 T' cells slots → T'.heap = h' → Wr h h' a (Jvm.RoadKit.slotOf Z C n d) v → own_G p e below s Q kc ks T' (mkF m (pc + 3) Ls rest)) : own_G p e below s Q kc ks T (mkF m pc Ls (v :: .ref a :: rest)) := by
  obtain ⟨locs, Y, N⟩ := X
  obtain ⟨T', h', Y', e', W, st⟩ := Jvm.RoadKit.putF Y hx hZ hown (host := "") (Or.inl w1) Via.refl eT F E L wi hty hn hf (g := mkF m pc Ls (v :: .ref a :: rest)) rfl rfl hd
  exact own_go _ st (k T' h' ⟨_, Y', Fr.snoc Y' N g0⟩ e' W)
theorem own_S.initO (X : own_S p l e R s m args below meth c n0 T cells slots) (hx : p.tables.exec = Jvm.exec) (hZ : Z.Warmed39 s.vm) {own : String} {idx : Nat} (hown : s.vm.findClass own = some m.cls) (w1 : (Jvm.Cond.methodLink own idx Lib.objectInit).before a0 Z = true) (w2 : (Jvm.Cond.instanceMethod Lib.objectInit).before a0 Z = true)
    (w3 : (Jvm.Cond.code Lib.objectInit ⟨#[0xb1]⟩ 1 none).before a0 Z = true) (eT : T.heap = h) (hsize : Ls.size = c.maxLocals) (hd : decode c.code pc = .ok (.invokespecial idx, 3)) (hf : 1 ≤ R.frames) (W : Nat) (hW : (rest.map fun v => v.category).sum ≤ W) (hl : W + 12 ≤ R.locals)
    (k : ∀ T', own_S p l e R s m args below meth c n0 T' cells slots → T'.heap = h → own_G p e below s Q kc ks T' (mkF m (pc + 3) Ls rest)) : own_G p e below s Q kc ks T (mkF m pc Ls (.ref a :: rest)) := by
  obtain ⟨locs, Y, N⟩ := X
  obtain ⟨T', Y', e', st⟩ := Jvm.RoadKit.initO Y hx hZ hown w1 w2 w3 eT (g := mkF m pc Ls (.ref a :: rest)) rfl hsize (a := a) (rest := rest) rfl hd hf (W := W) (by show 2 * 0 + _ ≤ _; omega) hl
  exact own_go _ st (k T' ⟨locs, Y', N⟩ e')
/-- new -/
theorem own_S.newO (X : own_S p l e R s m args below meth c n0 T cells slots) (hx : p.tables.exec = Jvm.exec) (hZ : Z.Warmed39 s.vm) {own C : String} {index n : Nat} (hown : s.vm.findClass own = some m.cls) (w1 : (Jvm.Cond.classLink own index C).before a0 Z = true) (wi : (Jvm.Cond.instantiable C n).before a0 Z = true) (wz : (Jvm.Cond.initialized C).before a0 Z = true) (eT : T.heap = h)
    (hd : decode c.code pc = .ok (.new index, 3)) (hc : cells + 1 ≤ R.cells) (hl : slots + n ≤ R.slots)
    (k : ∀ T' h' (b : Addr), own_S p l e R s m args below meth c n0 T' (cells + 1) (slots + n) → T'.heap = h' → b = h.size → Ext h h' → Exa Z h' b C → (∀ {O nm d : String} {ty : FieldType}, Laid Z a0 C O nm d → parseFieldDescriptor d = some ty → Fld Z h' b O nm d (defaultValue ty)) → own_G p e below s Q kc ks T' (mkF m (pc + 3) Ls (.ref b :: rest))) :
    own_G p e below s Q kc ks T (mkF m pc Ls rest) := by
  obtain ⟨locs, Y, N⟩ := X
  obtain ⟨T', h', Y', e', E, A, D, -, st⟩ := Jvm.RoadKit.newO Y hx hZ hown w1 wi wz eT (g := mkF m pc Ls rest) rfl hd hc hl
  exact own_go _ st (k T' h' h.size ⟨_, Y', N⟩ e' rfl E A D)
/-- an array, by the list of what it holds -/
def own_A (Z : State) (h : Heap) (ty : FieldType) (a : Addr) (vs : List Value) : Prop := ∃ cl : Cell, Arr Z h a cl ty ∧ cl.slots = vs.toArray ∧ vs.length < 2 ^ 31
theorem own_A.lt (A : own_A Z h ty a vs) : a < h.size := A.elim fun _ q => q.1.lt
theorem own_A.ext (A : own_A Z h ty a vs) (E : Ext h h') : own_A Z h' ty a vs := A.elim fun cl q => ⟨cl, q.1.ext E, q.2⟩
theorem own_A.other (A : own_A Z h ty b vs) (W : Wr h h' a sl v) (q : b ≠ a) : own_A Z h' ty b vs := A.elim fun cl r => ⟨cl, r.1.other W q, r.2⟩
theorem own_A.keep {ws : List Addr} (A : own_A Z h ty a vs) (K : Keep h h' ws) (q : a ∉ ws) : own_A Z h' ty a vs := A.elim fun cl r => ⟨cl, ⟨K.2.1 a cl r.1.1 q, r.1.2⟩, r.2⟩
theorem own_A.set (A : own_A Z h ty a vs) {i : Nat} (W : Wr h h' a i v) : own_A Z h' ty a (vs.set i v) := by
  obtain ⟨cl, A, q1, q2⟩ := A
  refine ⟨_, A.same W, ?_, by rw [List.length_set]; exact q2⟩
  simp [Cell.setSlot, q1]
theorem own_A.len (A : own_A Z h ty a vs) : vs.length < 2 ^ 31 := A.elim fun _ q => q.2.2
theorem own_clamp {j : Int32} {i : Nat} (hj : j.toInt = i) : j.toNatClampNeg = i ∧ ¬ j < 0 := by
  refine ⟨by simp [Int32.toNatClampNeg, hj], ?_⟩
  rw [Int32.lt_iff_toInt_lt, Int32.toInt_zero]; omega
theorem own_in {cl : Cell} (q1 : cl.slots = vs.toArray) {j : Int32} {i : Nat} (hj : j.toInt = i) (hi : i < vs.length) : ¬ (j < 0 ∨ cl.slots.size ≤ j.toNatClampNeg) := by
  obtain ⟨c1, c2⟩ := own_clamp hj
  rw [q1, c1]; intro r
  rcases r with r | r
  · exact c2 r
  · simp at r; omega
theorem own_lt_of {i : Nat} (hv : vs[i]? = some v) : i < vs.length := (List.getElem?_eq_some_iff.mp hv).1
theorem own_S.ldJ (X : own_S p l e R s m args below meth c n0 T cells slots) (hx : p.tables.exec = Jvm.exec) (hZ : Z.Warmed39 s.vm) (eT : T.heap = h) (A : own_A Z h .long a vs) {j : Int32} (i : Nat) (hj : j.toInt = i) (hv : vs[i]? = some v) (hd : decode c.code pc = .ok (.laload, 1))
    (k : own_G p e below s Q kc ks T (mkF m (pc + 1) Ls (v :: rest))) : own_G p e below s Q kc ks T (mkF m pc Ls (.int j :: .ref a :: rest)) := by
  obtain ⟨locs, Y, N⟩ := X
  obtain ⟨cl, A, q1, q2⟩ := A
  refine own_go _ (fun t kt => Y.laload hx (j := j) (v := v) (by rw [eT]; exact A.1) (State.isArrayOf_alike hZ.alike A.2.1) A.2.2 (own_in q1 hj (own_lt_of hv)) (by rw [(own_clamp hj).1, q1]; simpa using hv) (g := mkF m pc Ls (.int j :: .ref a :: rest)) rfl rfl hd t kt) k
theorem own_S.ldI (X : own_S p l e R s m args below meth c n0 T cells slots) (hx : p.tables.exec = Jvm.exec) (hZ : Z.Warmed39 s.vm) (eT : T.heap = h) (A : own_A Z h .int a vs) {j : Int32} (i : Nat) (hj : j.toInt = i) (hv : vs[i]? = some v) (hd : decode c.code pc = .ok (.iaload, 1))
    (k : own_G p e below s Q kc ks T (mkF m (pc + 1) Ls (v :: rest))) : own_G p e below s Q kc ks T (mkF m pc Ls (.int j :: .ref a :: rest)) := by
  obtain ⟨locs, Y, N⟩ := X
  obtain ⟨cl, A, q1, q2⟩ := A
  refine own_go _ (fun t kt => Y.iaload hx (j := j) (v := v) (by rw [eT]; exact A.1) (State.isArrayOf_alike hZ.alike A.2.1) A.2.2 (own_in q1 hj (own_lt_of hv)) (by rw [(own_clamp hj).1, q1]; simpa using hv) (g := mkF m pc Ls (.int j :: .ref a :: rest)) rfl rfl hd t kt) k
theorem own_S.ldB (X : own_S p l e R s m args below meth c n0 T cells slots) (hx : p.tables.exec = Jvm.exec) (hZ : Z.Warmed39 s.vm) (eT : T.heap = h) (A : own_A Z h .byte a vs) {j : Int32} (i : Nat) (hj : j.toInt = i) (hv : vs[i]? = some v) (hd : decode c.code pc = .ok (.baload, 1))
    (k : own_G p e below s Q kc ks T (mkF m (pc + 1) Ls (v :: rest))) : own_G p e below s Q kc ks T (mkF m pc Ls (.int j :: .ref a :: rest)) := by
  obtain ⟨locs, Y, N⟩ := X
  obtain ⟨cl, A, q1, q2⟩ := A
  refine own_go _ (fun t kt => Y.baloadBytes hx (j := j) (v := v) (by rw [eT]; exact A.1) (State.isArrayOf_alike hZ.alike A.2.1) A.2.2 (own_in q1 hj (own_lt_of hv)) (by rw [(own_clamp hj).1, q1]; simpa using hv) (g := mkF m pc Ls (.int j :: .ref a :: rest)) rfl rfl hd t kt) k
theorem own_S.alen (X : own_S p l e R s m args below meth c n0 T cells slots) (hx : p.tables.exec = Jvm.exec) (hZ : Z.Warmed39 s.vm) (eT : T.heap = h) (A : own_A Z h ty a vs) (hd : decode c.code pc = .ok (.arraylength, 1))
    (k : own_G p e below s Q kc ks T (mkF m (pc + 1) Ls (.int (Int32.ofNat vs.length) :: rest))) : own_G p e below s Q kc ks T (mkF m pc Ls (.ref a :: rest)) := by
  obtain ⟨locs, Y, N⟩ := X
  obtain ⟨cl, A, q1, q2⟩ := A
  have q : cl.slots.size.toInt32 = Int32.ofNat vs.length := by rw [q1]; simp
  refine own_go _ (fun t kt => Y.arraylength hx (by rw [eT]; exact A.1) (State.isArrayOf_alike hZ.alike A.2.1) (g := mkF m pc Ls (.ref a :: rest)) rfl rfl hd t (by rw [q]; exact kt)) k
theorem own_S.stJ (X : own_S p l e R s m args below meth c n0 T cells slots) (hx : p.tables.exec = Jvm.exec) (hZ : Z.Warmed39 s.vm) (eT : T.heap = h) (A : own_A Z h .long a vs) (g0 : n0 ≤ a) {j : Int32} {x : Int64} (i : Nat) (hj : j.toInt = i) (hi : i < vs.length) (hd : decode c.code pc = .ok (.lastore, 1))
    (k : ∀ T' h', own_S p l e R s m args below meth c n0 T' cells slots → T'.heap = h' → Wr h h' a i (.long x) → own_A Z h' .long a (vs.set i (.long x)) → own_G p e below s Q kc ks T' (mkF m (pc + 1) Ls rest)) : own_G p e below s Q kc ks T (mkF m pc Ls (.long x :: .int j :: .ref a :: rest)) := by
  obtain ⟨locs, Y, N⟩ := X
  have A' := A
  obtain ⟨cl, A, q1, q2⟩ := A
  obtain ⟨T', h', Y', e', W, st⟩ := Jvm.RoadKit.stJ Y hx hZ eT A (j := j) (x := x) (own_in q1 hj hi) (g := mkF m pc Ls (.long x :: .int j :: .ref a :: rest)) rfl rfl hd
  rw [(own_clamp hj).1] at W
  exact own_go _ st (k T' h' ⟨_, Y', Fr.snoc Y' N g0⟩ e' W (A'.set W))
theorem own_S.stI (X : own_S p l e R s m args below meth c n0 T cells slots) (hx : p.tables.exec = Jvm.exec) (hZ : Z.Warmed39 s.vm) (eT : T.heap = h) (A : own_A Z h .int a vs) (g0 : n0 ≤ a) {j : Int32} {x : Int32} (i : Nat) (hj : j.toInt = i) (hi : i < vs.length) (hd : decode c.code pc = .ok (.iastore, 1))
    (k : ∀ T' h', own_S p l e R s m args below meth c n0 T' cells slots → T'.heap = h' → Wr h h' a i (.int x) → own_A Z h' .int a (vs.set i (.int x)) → own_G p e below s Q kc ks T' (mkF m (pc + 1) Ls rest)) : own_G p e below s Q kc ks T (mkF m pc Ls (.int x :: .int j :: .ref a :: rest)) := by
  obtain ⟨locs, Y, N⟩ := X
  have A' := A
  obtain ⟨cl, A, q1, q2⟩ := A
  obtain ⟨T', h', Y', e', W, st⟩ := Jvm.RoadKit.stI Y hx hZ eT A (j := j) (x := x) (own_in q1 hj hi) (g := mkF m pc Ls (.int x :: .int j :: .ref a :: rest)) rfl rfl hd
  rw [(own_clamp hj).1] at W
  exact own_go _ st (k T' h' ⟨_, Y', Fr.snoc Y' N g0⟩ e' W (A'.set W))
theorem own_S.stB (X : own_S p l e R s m args below meth c n0 T cells slots) (hx : p.tables.exec = Jvm.exec) (hZ : Z.Warmed39 s.vm) (eT : T.heap = h) (A : own_A Z h .byte a vs) (g0 : n0 ≤ a) {j : Int32} {x : Int32} (i : Nat) (hj : j.toInt = i) (hi : i < vs.length) (hd : decode c.code pc = .ok (.bastore, 1))
    (k : ∀ T' h', own_S p l e R s m args below meth c n0 T' cells slots → T'.heap = h' → Wr h h' a i (.int x.toInt8.toInt32) → own_A Z h' .byte a (vs.set i (.int x.toInt8.toInt32)) → own_G p e below s Q kc ks T' (mkF m (pc + 1) Ls rest)) : own_G p e below s Q kc ks T (mkF m pc Ls (.int x :: .int j :: .ref a :: rest)) := by
  obtain ⟨locs, Y, N⟩ := X
  have A' := A
  obtain ⟨cl, A, q1, q2⟩ := A
  obtain ⟨T', h', Y', e', W, st⟩ := Jvm.RoadKit.stB Y hx hZ eT A (j := j) (x := x) (own_in q1 hj hi) (g := mkF m pc Ls (.int x :: .int j :: .ref a :: rest)) rfl rfl hd
  rw [(own_clamp hj).1] at W
  exact own_go _ st (k T' h' ⟨_, Y', Fr.snoc Y' N g0⟩ e' W (A'.set W))
theorem own_S.stZ (X : own_S p l e R s m args below meth c n0 T cells slots) (hx : p.tables.exec = Jvm.exec) (hZ : Z.Warmed39 s.vm) (eT : T.heap = h) (A : own_A Z h .boolean a vs) (g0 : n0 ≤ a) {j : Int32} {x : Int32} (i : Nat) (hj : j.toInt = i) (hi : i < vs.length) (hd : decode c.code pc = .ok (.bastore, 1))
    (k : ∀ T' h', own_S p l e R s m args below meth c n0 T' cells slots → T'.heap = h' → Wr h h' a i (.int (x &&& 1)) → own_A Z h' .boolean a (vs.set i (.int (x &&& 1))) → own_G p e below s Q kc ks T' (mkF m (pc + 1) Ls rest)) : own_G p e below s Q kc ks T (mkF m pc Ls (.int x :: .int j :: .ref a :: rest)) := by
  obtain ⟨locs, Y, N⟩ := X
  have A' := A
  obtain ⟨cl, A, q1, q2⟩ := A
  obtain ⟨T', h', Y', e', W, st⟩ := Jvm.RoadKit.stZ Y hx hZ eT A (j := j) (x := x) (own_in q1 hj hi) (g := mkF m pc Ls (.int x :: .int j :: .ref a :: rest)) rfl rfl hd
  rw [(own_clamp hj).1] at W
  exact own_go _ st (k T' h' ⟨_, Y', Fr.snoc Y' N g0⟩ e' W (A'.set W))
theorem own_S.newP (X : own_S p l e R s m args below meth c n0 T cells slots) (hx : p.tables.exec = Jvm.exec) (hZ : Z.Warmed39 s.vm) {aty : ArrayType} (w1 : (Jvm.Cond.arrayClass (newarray.typeOf aty)).before a0 Z = true) (eT : T.heap = h) {j : Int32} (n : Nat) (hj : j.toInt = n) (hd : decode c.code pc = .ok (.newarray aty, 2)) (cap : Nat) (hn : n ≤ cap) (hb : cap * 8 ≤ 536870912) (hc : cells + 1 ≤ R.cells) (hl : slots + cap ≤ R.slots)
    (k : ∀ T' h' (b : Addr), own_S p l e R s m args below meth c n0 T' (cells + 1) (slots + cap) → T'.heap = h' → b = h.size → Ext h h' → own_A Z h' (newarray.typeOf aty) b (List.replicate n (defaultValue (newarray.typeOf aty))) → own_G p e below s Q kc ks T' (mkF m (pc + 2) Ls (.ref b :: rest))) :
    own_G p e below s Q kc ks T (mkF m pc Ls (.int j :: rest)) := by
  obtain ⟨locs, Y, N⟩ := X
  obtain ⟨c1, c2⟩ := own_clamp hj
  obtain ⟨T', h', cA, Y', e', E, A, st⟩ := Jvm.RoadKit.newP Y hx hZ w1 eT (g := mkF m pc Ls (.int j :: rest)) rfl hd rfl c2 (cap := cap) (by rw [c1]; exact hn) hb hc hl
  refine own_go _ st (k T' h' h.size ⟨_, Y', N⟩ e' rfl E ⟨_, A, ?_, ?_⟩)
  · simp [newA, c1]
  · rw [List.length_replicate]; omega
/-- calls -/
theorem own_S.callS (X : own_S p l e R s m args below meth c n0 T cells slots) (hx : p.tables.exec = Jvm.exec) (hZ : Z.Warmed39 s.vm) {own : String} {index : Nat} {y : MethodName} {bytes : ByteArray} {mx : Nat} {ret : Option FieldType} {rm : Room} {P : Option Value → Heap → Prop}
    (hown : s.vm.findClass own = some m.cls) (w1 : (Jvm.Cond.methodLink own index y).before a0 Z = true) (w2 : (Jvm.Cond.static y).before a0 Z = true) (w3 : (Jvm.Cond.initialized y.cls).before a0 Z = true) (w4 : (Jvm.Cond.code y bytes mx ret).before a0 Z = true) (hy : y.cls ≠ "java/lang/invoke/MethodHandle" ∧ y.cls ≠ "java/lang/invoke/VarHandle")
    (eT : T.heap = h) (argsL rest : List Value) (hM : own_C l Z y bytes mx ret [] rm argsL.toArray h (own_Q n0 P)) (W : Nat) (hf : rm.frames + 1 ≤ R.frames) (hlo : W + (mx + 11) + rm.locals ≤ R.locals) (hW : (rest.map fun v => v.category).sum ≤ W) (hc : cells + rm.cells ≤ R.cells) (hs : slots + rm.slots ≤ R.slots)
    {S : List Value} (hsize : Ls.size = c.maxLocals) (hlen : ∀ sig, parseMethodDescriptor y.desc = some sig → argsL.length = sig.parameters.length) (hS : S = argsL.reverse ++ rest) (hd : decode c.code pc = .ok (.invokestatic index, 3))
    (k : ∀ (T' : State) (v : Option Value), own_S p l e R s m args below meth c n0 T' (cells + rm.cells) (slots + rm.slots) → P v T'.heap → own_G p e below s Q kc ks T' (mkF m (pc + 3) Ls (v.toList ++ rest))) :
    own_G p e below s Q kc ks T (mkF m pc Ls S) := by
  obtain ⟨locs, Y, N⟩ := X
  exact own_callS Y hx hZ hown w1 w2 w3 w4 hy eT argsL rest hM W hf hlo hW hc hs hsize hlen hS hd fun T' v L Y' hq => k T' v ⟨_, Y', N.app hq.1⟩ hq.2
theorem own_S.callP (X : own_S p l e R s m args below meth c n0 T cells slots) (hx : p.tables.exec = Jvm.exec) (hZ : Z.Warmed39 s.vm) {own : String} {index : Nat} {y : MethodName} {bytes : ByteArray} {mx : Nat} {ret : Option FieldType} {fr lo : Nat} {r : Value}
    (hown : s.vm.findClass own = some m.cls) (w1 : (Jvm.Cond.methodLink own index y).before a0 Z = true) (w2 : (Jvm.Cond.static y).before a0 Z = true) (w3 : (Jvm.Cond.initialized y.cls).before a0 Z = true) (w4 : (Jvm.Cond.code y bytes mx ret).before a0 Z = true) (hy : y.cls ≠ "java/lang/invoke/MethodHandle" ∧ y.cls ≠ "java/lang/invoke/VarHandle")
    (eT : T.heap = h) (argsL rest : List Value) (hM : own_C l Z y bytes mx ret [] { frames := fr, cells := 0, slots := 0, locals := lo } argsL.toArray h (own_P r h)) (W : Nat) (hf : fr + 1 ≤ R.frames) (hlo : W + (mx + 11) + lo ≤ R.locals) (hW : (rest.map fun v => v.category).sum ≤ W) (hc : cells ≤ R.cells) (hs : slots ≤ R.slots)
    {S : List Value} (hsize : Ls.size = c.maxLocals) (hlen : ∀ sig, parseMethodDescriptor y.desc = some sig → argsL.length = sig.parameters.length) (hS : S = argsL.reverse ++ rest) (hd : decode c.code pc = .ok (.invokestatic index, 3))
    (k : ∀ (T' : State), own_S p l e R s m args below meth c n0 T' cells slots → T'.heap = h → own_G p e below s Q kc ks T' (mkF m (pc + 3) Ls (r :: rest))) :
    own_G p e below s Q kc ks T (mkF m pc Ls S) := by
  obtain ⟨locs, Y, N⟩ := X
  exact own_callP Y hx hZ hown w1 w2 w3 w4 hy eT argsL rest hM W hf hlo hW hc hs hsize hlen hS hd fun T' Y' e' => k T' ⟨_, Y', N⟩ e'
theorem own_S.callI (X : own_S p l e R s m args below meth c n0 T cells slots) (hx : p.tables.exec = Jvm.exec) (hZ : Z.Warmed39 s.vm) {own : String} {index : Nat} {y : MethodName} {bytes : ByteArray} {mx : Nat} {rm : Room} {P : Option Value → Heap → Prop} (hy1 : y.name = "<init>")
    (hown : s.vm.findClass own = some m.cls) (w1 : (Jvm.Cond.methodLink own index y).before a0 Z = true) (w2 : (Jvm.Cond.instanceMethod y).before a0 Z = true) (w3 : (Jvm.Cond.initialized y.cls).before a0 Z = true) (w4 : (Jvm.Cond.code y bytes mx none).before a0 Z = true) (hy : y.cls ≠ "java/lang/invoke/MethodHandle" ∧ y.cls ≠ "java/lang/invoke/VarHandle")
    (eT : T.heap = h) (a : Addr) (argsL rest : List Value) (hM : own_C l Z y bytes mx none [] rm (.ref a :: argsL).toArray h (own_Q n0 P)) (W : Nat) (hf : rm.frames + 1 ≤ R.frames) (hlo : W + (mx + 11) + rm.locals ≤ R.locals) (hW : (rest.map fun v => v.category).sum ≤ W) (hc : cells + rm.cells ≤ R.cells) (hs : slots + rm.slots ≤ R.slots)
    {S : List Value} (hsize : Ls.size = c.maxLocals) (hlen : ∀ sig, parseMethodDescriptor y.desc = some sig → argsL.length = sig.parameters.length) (hS : S = argsL.reverse ++ .ref a :: rest) (hd : decode c.code pc = .ok (.invokespecial index, 3))
    (k : ∀ (T' : State) (v : Option Value), own_S p l e R s m args below meth c n0 T' (cells + rm.cells) (slots + rm.slots) → P v T'.heap → own_G p e below s Q kc ks T' (mkF m (pc + 3) Ls (v.toList ++ rest))) :
    own_G p e below s Q kc ks T (mkF m pc Ls S) := by
  obtain ⟨locs, Y, N⟩ := X
  exact own_callI Y hx hZ hy1 hown w1 w2 w3 w4 hy eT a argsL rest hM W hf hlo hW hc hs hsize hlen hS hd fun T' v L Y' hq => k T' v ⟨_, Y', N.app hq.1⟩ hq.2
theorem own_S.callV (X : own_S p l e R s m args below meth c n0 T cells slots) (hx : p.tables.exec = Jvm.exec) (hZ : Z.Warmed39 s.vm) {own C : String} {index : Nat} {y : MethodName} {bytes : ByteArray} {mx : Nat} {ret : Option FieldType} {rm : Room} {P : Option Value → Heap → Prop}
    (hown : s.vm.findClass own = some m.cls) (w1 : (Jvm.Cond.methodLink own index y).before a0 Z = true) (w5 : (Jvm.Cond.declares y).before a0 Z = true) (w6 : (Jvm.Cond.selects C y y).before a0 Z = true) (w2 : (Jvm.Cond.instanceMethod y).before a0 Z = true) (w3 : (Jvm.Cond.initialized y.cls).before a0 Z = true) (w4 : (Jvm.Cond.code y bytes mx ret).before a0 Z = true) (hy : y.cls ≠ "java/lang/invoke/MethodHandle" ∧ y.cls ≠ "java/lang/invoke/VarHandle")
    (eT : T.heap = h) {a : Addr} (E : Exa Z h a C) (argsL rest : List Value) (hM : own_C l Z y bytes mx ret [] rm (.ref a :: argsL).toArray h (own_Q n0 P)) (W : Nat) (hf : rm.frames + 1 ≤ R.frames) (hlo : W + (mx + 11) + rm.locals ≤ R.locals) (hW : (rest.map fun v => v.category).sum ≤ W) (hc : cells + rm.cells ≤ R.cells) (hs : slots + rm.slots ≤ R.slots)
    {S : List Value} (hsize : Ls.size = c.maxLocals) (hlen : ∀ sig, parseMethodDescriptor y.desc = some sig → argsL.length = sig.parameters.length) (hS : S = argsL.reverse ++ .ref a :: rest) (hd : decode c.code pc = .ok (.invokevirtual index, 3))
    (k : ∀ (T' : State) (v : Option Value), own_S p l e R s m args below meth c n0 T' (cells + rm.cells) (slots + rm.slots) → P v T'.heap → own_G p e below s Q kc ks T' (mkF m (pc + 3) Ls (v.toList ++ rest))) :
    own_G p e below s Q kc ks T (mkF m pc Ls S) := by
  obtain ⟨locs, Y, N⟩ := X
  exact own_callV Y hx hZ hown w1 w5 w6 w2 w3 w4 hy eT E argsL rest hM W hf hlo hW hc hs hsize hlen hS hd fun T' v L Y' hq => k T' v ⟨_, Y', N.app hq.1⟩ hq.2
end OwnHeap
theorem own_pd0 : parseMethodDescriptor "(I)I" = some ⟨[.int], some .int⟩ := by decide +kernel
theorem own_pd1 : parseMethodDescriptor "(I)Z" = some ⟨[.int], some .boolean⟩ := by decide +kernel
theorem own_pd2 : parseMethodDescriptor "(IJIJ)V" = some ⟨[.int, .long, .int, .long], none⟩ := by decide +kernel
theorem own_pd3 : parseMethodDescriptor "([JJ)V" = some ⟨[(.array .long), .long], none⟩ := by decide +kernel
theorem own_pd4 : parseMethodDescriptor "(J)I" = some ⟨[.long], some .int⟩ := by decide +kernel
theorem own_pd5 : parseMethodDescriptor "(I)V" = some ⟨[.int], none⟩ := by decide +kernel
section OwnOpaque
variable {p : Program} {l : Launch} {e : Env} {R : Room} {s : State} {m : MethodId} {args : Array Value} {below : List Frame} {meth : Method} {c : Code} {T T' : State} {locs : List Loc} {cells slots n0 n : Nat} {Q : Option Value → Heap → List Loc → Prop} {kc ks : Nat} {g : JFrame} {Z : State} {a0 : Array Value} {h h' h0 : Heap} {a b : Addr} {vs : List Value} {ty : FieldType} {v w : Value} {sl pc : Nat} {Ls : Array Slot} {rest : List Value} {P : Value → Prop}
/-- an array of n places, of whose values only P is known -/
def own_O (Z : State) (h : Heap) (ty : FieldType) (a : Addr) (n : Nat) (P : Value → Prop) : Prop := ∃ vs, own_A Z h ty a vs ∧ vs.length = n ∧ ∀ v ∈ vs, P v
def own_isJ (v : Value) : Prop := ∃ x : Int64, v = .long x
def own_isI (v : Value) : Prop := ∃ x : Int32, v = .int x
/-- an int below n -/
def own_below (n : Nat) (v : Value) : Prop := ∃ x : Int32, v = .int x ∧ 0 ≤ x.toInt ∧ x.toInt < n
theorem own_O.lt (A : own_O Z h ty a n P) : a < h.size := A.elim fun _ q => q.1.lt
theorem own_O.ext (A : own_O Z h ty a n P) (E : Ext h h') : own_O Z h' ty a n P := A.elim fun vs q => ⟨vs, q.1.ext E, q.2⟩
theorem own_O.other (A : own_O Z h ty b n P) (W : Wr h h' a sl v) (q : b ≠ a) : own_O Z h' ty b n P := A.elim fun vs r => ⟨vs, r.1.other W q, r.2⟩
theorem own_O.keep {ws : List Addr} (A : own_O Z h ty a n P) (K : Keep h h' ws) (q : a ∉ ws) : own_O Z h' ty a n P := A.elim fun vs r => ⟨vs, r.1.keep K q, r.2⟩
theorem own_O.len (A : own_O Z h ty a n P) : n < 2 ^ 31 := A.elim fun _ q => q.2.1 ▸ q.1.len
theorem own_O.mono {P' : Value → Prop} (A : own_O Z h ty a n P) (q : ∀ v, P v → P' v) : own_O Z h ty a n P' := A.elim fun vs r => ⟨vs, r.1, r.2.1, fun v hv => q v (r.2.2 v hv)⟩
theorem own_O.of (A : own_A Z h ty a vs) (q : ∀ v ∈ vs, P v) : own_O Z h ty a vs.length P := ⟨vs, A, rfl, q⟩
theorem own_O.rep (A : own_A Z h ty a (List.replicate n v)) (q : P v) : own_O Z h ty a n P := ⟨_, A, List.length_replicate, fun w hw => by rw [(List.mem_replicate.mp hw).2]; exact q⟩
theorem own_set_all {i : Nat} (q : ∀ v ∈ vs, P v) (r : P w) : ∀ v ∈ vs.set i w, P v := fun v hv => (List.mem_or_eq_of_mem_set hv).elim (q v) (fun z => z ▸ r)
theorem own_S.ldJo (X : own_S p l e R s m args below meth c n0 T cells slots) (hx : p.tables.exec = Jvm.exec) (hZ : Z.Warmed39 s.vm) (eT : T.heap = h) (A : own_O Z h .long a n P) {j : Int32} (i : Nat) (hj : j.toInt = i) (hi : i < n) (hd : decode c.code pc = .ok (.laload, 1))
    (k : ∀ v, P v → own_G p e below s Q kc ks T (mkF m (pc + 1) Ls (v :: rest))) : own_G p e below s Q kc ks T (mkF m pc Ls (.int j :: .ref a :: rest)) := by
  obtain ⟨vs, A, q1, q2⟩ := A
  exact X.ldJ hx hZ eT A i hj (List.getElem?_eq_getElem (by omega)) hd (k _ (q2 _ (List.getElem_mem _)))
theorem own_S.ldIo (X : own_S p l e R s m args below meth c n0 T cells slots) (hx : p.tables.exec = Jvm.exec) (hZ : Z.Warmed39 s.vm) (eT : T.heap = h) (A : own_O Z h .int a n P) {j : Int32} (i : Nat) (hj : j.toInt = i) (hi : i < n) (hd : decode c.code pc = .ok (.iaload, 1))
    (k : ∀ v, P v → own_G p e below s Q kc ks T (mkF m (pc + 1) Ls (v :: rest))) : own_G p e below s Q kc ks T (mkF m pc Ls (.int j :: .ref a :: rest)) := by
  obtain ⟨vs, A, q1, q2⟩ := A
  exact X.ldI hx hZ eT A i hj (List.getElem?_eq_getElem (by omega)) hd (k _ (q2 _ (List.getElem_mem _)))
theorem own_S.aleno (X : own_S p l e R s m args below meth c n0 T cells slots) (hx : p.tables.exec = Jvm.exec) (hZ : Z.Warmed39 s.vm) (eT : T.heap = h) (A : own_O Z h ty a n P) (hd : decode c.code pc = .ok (.arraylength, 1))
    (k : own_G p e below s Q kc ks T (mkF m (pc + 1) Ls (.int (Int32.ofNat n) :: rest))) : own_G p e below s Q kc ks T (mkF m pc Ls (.ref a :: rest)) := by
  obtain ⟨vs, A, rfl, q2⟩ := A
  exact X.alen hx hZ eT A hd k
theorem own_S.stJo (X : own_S p l e R s m args below meth c n0 T cells slots) (hx : p.tables.exec = Jvm.exec) (hZ : Z.Warmed39 s.vm) (eT : T.heap = h) (A : own_O Z h .long a n P) (g0 : n0 ≤ a) {j : Int32} {x : Int64} (i : Nat) (hj : j.toInt = i) (hi : i < n) (hP : P (.long x)) (hd : decode c.code pc = .ok (.lastore, 1))
    (k : ∀ T' h', own_S p l e R s m args below meth c n0 T' cells slots → T'.heap = h' → Wr h h' a i (.long x) → own_O Z h' .long a n P → own_G p e below s Q kc ks T' (mkF m (pc + 1) Ls rest)) : own_G p e below s Q kc ks T (mkF m pc Ls (.long x :: .int j :: .ref a :: rest)) := by
  obtain ⟨vs, A, q1, q2⟩ := A
  exact X.stJ hx hZ eT A g0 i hj (by omega) hd fun T' h' X' e' W A' => k T' h' X' e' W ⟨_, A', by rw [List.length_set]; exact q1, own_set_all q2 hP⟩
theorem own_S.stIo (X : own_S p l e R s m args below meth c n0 T cells slots) (hx : p.tables.exec = Jvm.exec) (hZ : Z.Warmed39 s.vm) (eT : T.heap = h) (A : own_O Z h .int a n P) (g0 : n0 ≤ a) {j x : Int32} (i : Nat) (hj : j.toInt = i) (hi : i < n) (hP : P (.int x)) (hd : decode c.code pc = .ok (.iastore, 1))
    (k : ∀ T' h', own_S p l e R s m args below meth c n0 T' cells slots → T'.heap = h' → Wr h h' a i (.int x) → own_O Z h' .int a n P → own_G p e below s Q kc ks T' (mkF m (pc + 1) Ls rest)) : own_G p e below s Q kc ks T (mkF m pc Ls (.int x :: .int j :: .ref a :: rest)) := by
  obtain ⟨vs, A, q1, q2⟩ := A
  exact X.stI hx hZ eT A g0 i hj (by omega) hd fun T' h' X' e' W A' => k T' h' X' e' W ⟨_, A', by rw [List.length_set]; exact q1, own_set_all q2 hP⟩
theorem own_S.stZo (X : own_S p l e R s m args below meth c n0 T cells slots) (hx : p.tables.exec = Jvm.exec) (hZ : Z.Warmed39 s.vm) (eT : T.heap = h) (A : own_O Z h .boolean a n P) (g0 : n0 ≤ a) {j x : Int32} (i : Nat) (hj : j.toInt = i) (hi : i < n) (hP : P (.int (x &&& 1))) (hd : decode c.code pc = .ok (.bastore, 1))
    (k : ∀ T' h', own_S p l e R s m args below meth c n0 T' cells slots → T'.heap = h' → Wr h h' a i (.int (x &&& 1)) → own_O Z h' .boolean a n P → own_G p e below s Q kc ks T' (mkF m (pc + 1) Ls rest)) : own_G p e below s Q kc ks T (mkF m pc Ls (.int x :: .int j :: .ref a :: rest)) := by
  obtain ⟨vs, A, q1, q2⟩ := A
  exact X.stZ hx hZ eT A g0 i hj (by omega) hd fun T' h' X' e' W A' => k T' h' X' e' W ⟨_, A', by rw [List.length_set]; exact q1, own_set_all q2 hP⟩
end OwnOpaque

def own_T (Z : State) (h : Heap) (n0 : Nat) (t w bp bs bc : Addr) (cs : List Value) : Prop :=
  (n0 ≤ h.size ∧ n0 ≤ t ∧ n0 ≤ bp ∧ n0 ≤ bs ∧ n0 ≤ bc) ∧ (t ≠ w ∧ t ≠ bp ∧ t ≠ bs ∧ t ≠ bc ∧ w ≠ bp ∧ w ≠ bs ∧ w ≠ bc ∧ bp ≠ bs ∧ bp ≠ bc ∧ bs ≠ bc) ∧
  (Exa Z h t "com/example/load_across_peers/loadacrosspeers/internal/pick/WeightTree" ∧ own_O Z h .long w 6 own_isJ ∧ own_O Z h .boolean bp 6 own_isI ∧ own_O Z h .long bs 7 own_isJ ∧ own_A Z h .int bc cs) ∧
  (Fld Z h t "com/example/load_across_peers/loadacrosspeers/internal/pick/WeightTree" "weights" "[J" (.ref w) ∧ Fld Z h t "com/example/load_across_peers/loadacrosspeers/internal/pick/WeightTree" "present" "[Z" (.ref bp) ∧ Fld Z h t "com/example/load_across_peers/loadacrosspeers/internal/pick/WeightTree" "sums" "[J" (.ref bs) ∧ Fld Z h t "com/example/load_across_peers/loadacrosspeers/internal/pick/WeightTree" "counts" "[I" (.ref bc) ∧ Fld Z h t "com/example/load_across_peers/loadacrosspeers/internal/pick/WeightTree" "top" "I" (.int (4 : Int32)) ∧ Fld Z h t "com/example/load_across_peers/loadacrosspeers/internal/pick/WeightTree" "rising" "[Z" .null) ∧
  ∃ (u1 : Int64) (u2 : Int32) (u3 : Int64), Fld Z h t "com/example/load_across_peers/loadacrosspeers/internal/pick/WeightTree" "total" "J" (.long u1) ∧ Fld Z h t "com/example/load_across_peers/loadacrosspeers/internal/pick/WeightTree" "taking" "I" (.int u2) ∧ Fld Z h t "com/example/load_across_peers/loadacrosspeers/internal/pick/WeightTree" "risingCount" "J" (.long u3)

section OwnPriv
variable {p : Program} {l : Launch} {e : Env} {R : Room} {s : State} {m : MethodId} {args : Array Value} {below : List Frame} {meth : Method} {c : Code} {T T' : State} {locs : List Loc} {cells slots n0 n : Nat} {Q : Option Value → Heap → List Loc → Prop} {kc ks : Nat} {Z : State} {a0 : Array Value} {h h' h0 : Heap} {a b : Addr} {pc : Nat} {Ls : Array Slot} {rest : List Value}
/-- a private instance method's call by invokevirtual -/
theorem own_S.callR (X : own_S p l e R s m args below meth c n0 T cells slots) (hx : p.tables.exec = Jvm.exec) (hZ : Z.Warmed39 s.vm) {own : String} {index ni : Nat} {y : MethodName} {bytes : ByteArray} {mx : Nat} {ret : Option FieldType} {rm : Room} {P : Option Value → Heap → Prop}
    (hown : s.vm.findClass own = some m.cls) (w1 : (Jvm.Cond.methodLink own index y).before a0 Z = true) (w5 : (Jvm.Cond.instantiable y.cls ni).before a0 Z = true) (w6 : (Jvm.Cond.privateMethod y).before a0 Z = true) (w2 : (Jvm.Cond.instanceMethod y).before a0 Z = true) (w3 : (Jvm.Cond.initialized y.cls).before a0 Z = true) (w4 : (Jvm.Cond.code y bytes mx ret).before a0 Z = true) (hy : y.cls ≠ "java/lang/invoke/MethodHandle" ∧ y.cls ≠ "java/lang/invoke/VarHandle")
    (eT : T.heap = h) {a : Addr} {C : String} (E : Exa Z h a C) (argsL rest : List Value) (hM : own_C l Z y bytes mx ret [] rm (.ref a :: argsL).toArray h (own_Q n0 P)) (W : Nat) (hf : rm.frames + 1 ≤ R.frames) (hlo : W + (mx + 11) + rm.locals ≤ R.locals) (hW : (rest.map fun v => v.category).sum ≤ W) (hc : cells + rm.cells ≤ R.cells) (hs : slots + rm.slots ≤ R.slots)
    {S : List Value} (hsize : Ls.size = c.maxLocals) (hlen : ∀ sig, parseMethodDescriptor y.desc = some sig → argsL.length = sig.parameters.length) (hS : S = argsL.reverse ++ .ref a :: rest) (hd : decode c.code pc = .ok (.invokevirtual index, 3))
    (k : ∀ (T' : State) (v : Option Value), own_S p l e R s m args below meth c n0 T' (cells + rm.cells) (slots + rm.slots) → P v T'.heap → own_G p e below s Q kc ks T' (mkF m (pc + 3) Ls (v.toList ++ rest))) :
    own_G p e below s Q kc ks T (mkF m pc Ls S) := by
  obtain ⟨locs, Y, N⟩ := X
  obtain ⟨cq, q1', q2'⟩ := E.cell
  have hpr : (Jvm.Cond.privateMethod y).before args s = true := mvP hZ w6
  have hin : (Jvm.Cond.instanceMethod y).before args s = true := mvT hZ w2
  have hsel : (Jvm.Cond.selects y.cls y y).before args s = true := Jvm.Kit.selects_private hy (mvT hZ w5) hpr hin
  obtain ⟨v, _, ⟨T', L', k', n'⟩, -, X', ⟨L, hQ, q1, q2, q3⟩, st⟩ := Y.privateBack hx (y := y) hown (mvT hZ w1) hin hsel (Jvm.Cond.privateMethod_at hpr) (mvT hZ w4) hy (backOf (W := W) hM hZ w4 w3 hf hlo) (g := mkF m pc Ls S) rfl hsize (Steps.refl _) (a := a) (by rw [eT]; exact q1') q2' (argsL := argsL) (rest := rest) hlen hS (by show 2 * 0 + _ ≤ _; omega) hd (fun _ _ => ⟨rfl, eT, hc, hs⟩)
  dsimp only [Pt.U, Pt.locs, Pt.cells, Pt.slots] at X' q1 q2 q3 st hQ
  subst q1 q2 q3
  exact own_go _ (fun t kt => st.trans kt) (k T' v ⟨_, X', N.app hQ.1⟩ hQ.2)
end OwnPriv

def own_nlz (x : Int32) : Int32 := (if (0 : Int32) < x then (if x < (65536 : Int32) then (if x < (256 : Int32) then (if x < (16 : Int32) then (if x < (4 : Int32) then ((31 : Int32) - ((x.toUInt32 >>> ((1 : Int32) &&& 31).toUInt32).toInt32)) else ((29 : Int32) - ((((x.toUInt32 >>> ((2 : Int32) &&& 31).toUInt32).toInt32).toUInt32 >>> ((1 : Int32) &&& 31).toUInt32).toInt32))) else (if ((x.toUInt32 >>> ((4 : Int32) &&& 31).toUInt32).toInt32) < (4 : Int32) then ((27 : Int32) - ((((x.toUInt32 >>> ((4 : Int32) &&& 31).toUInt32).toInt32).toUInt32 >>> ((1 : Int32) &&& 31).toUInt32).toInt32)) else ((25 : Int32) - ((((((x.toUInt32 >>> ((4 : Int32) &&& 31).toUInt32).toInt32).toUInt32 >>> ((2 : Int32) &&& 31).toUInt32).toInt32).toUInt32 >>> ((1 : Int32) &&& 31).toUInt32).toInt32)))) else (if ((x.toUInt32 >>> ((8 : Int32) &&& 31).toUInt32).toInt32) < (16 : Int32) then (if ((x.toUInt32 >>> ((8 : Int32) &&& 31).toUInt32).toInt32) < (4 : Int32) then ((23 : Int32) - ((((x.toUInt32 >>> ((8 : Int32) &&& 31).toUInt32).toInt32).toUInt32 >>> ((1 : Int32) &&& 31).toUInt32).toInt32)) else ((21 : Int32) - ((((((x.toUInt32 >>> ((8 : Int32) &&& 31).toUInt32).toInt32).toUInt32 >>> ((2 : Int32) &&& 31).toUInt32).toInt32).toUInt32 >>> ((1 : Int32) &&& 31).toUInt32).toInt32))) else (if ((((x.toUInt32 >>> ((8 : Int32) &&& 31).toUInt32).toInt32).toUInt32 >>> ((4 : Int32) &&& 31).toUInt32).toInt32) < (4 : Int32) then ((19 : Int32) - ((((((x.toUInt32 >>> ((8 : Int32) &&& 31).toUInt32).toInt32).toUInt32 >>> ((4 : Int32) &&& 31).toUInt32).toInt32).toUInt32 >>> ((1 : Int32) &&& 31).toUInt32).toInt32)) else ((17 : Int32) - ((((((((x.toUInt32 >>> ((8 : Int32) &&& 31).toUInt32).toInt32).toUInt32 >>> ((4 : Int32) &&& 31).toUInt32).toInt32).toUInt32 >>> ((2 : Int32) &&& 31).toUInt32).toInt32).toUInt32 >>> ((1 : Int32) &&& 31).toUInt32).toInt32))))) else (if ((x.toUInt32 >>> ((16 : Int32) &&& 31).toUInt32).toInt32) < (256 : Int32) then (if ((x.toUInt32 >>> ((16 : Int32) &&& 31).toUInt32).toInt32) < (16 : Int32) then (if ((x.toUInt32 >>> ((16 : Int32) &&& 31).toUInt32).toInt32) < (4 : Int32) then ((15 : Int32) - ((((x.toUInt32 >>> ((16 : Int32) &&& 31).toUInt32).toInt32).toUInt32 >>> ((1 : Int32) &&& 31).toUInt32).toInt32)) else ((13 : Int32) - ((((((x.toUInt32 >>> ((16 : Int32) &&& 31).toUInt32).toInt32).toUInt32 >>> ((2 : Int32) &&& 31).toUInt32).toInt32).toUInt32 >>> ((1 : Int32) &&& 31).toUInt32).toInt32))) else (if ((((x.toUInt32 >>> ((16 : Int32) &&& 31).toUInt32).toInt32).toUInt32 >>> ((4 : Int32) &&& 31).toUInt32).toInt32) < (4 : Int32) then ((11 : Int32) - ((((((x.toUInt32 >>> ((16 : Int32) &&& 31).toUInt32).toInt32).toUInt32 >>> ((4 : Int32) &&& 31).toUInt32).toInt32).toUInt32 >>> ((1 : Int32) &&& 31).toUInt32).toInt32)) else ((9 : Int32) - ((((((((x.toUInt32 >>> ((16 : Int32) &&& 31).toUInt32).toInt32).toUInt32 >>> ((4 : Int32) &&& 31).toUInt32).toInt32).toUInt32 >>> ((2 : Int32) &&& 31).toUInt32).toInt32).toUInt32 >>> ((1 : Int32) &&& 31).toUInt32).toInt32)))) else (if ((((x.toUInt32 >>> ((16 : Int32) &&& 31).toUInt32).toInt32).toUInt32 >>> ((8 : Int32) &&& 31).toUInt32).toInt32) < (16 : Int32) then (if ((((x.toUInt32 >>> ((16 : Int32) &&& 31).toUInt32).toInt32).toUInt32 >>> ((8 : Int32) &&& 31).toUInt32).toInt32) < (4 : Int32) then ((7 : Int32) - ((((((x.toUInt32 >>> ((16 : Int32) &&& 31).toUInt32).toInt32).toUInt32 >>> ((8 : Int32) &&& 31).toUInt32).toInt32).toUInt32 >>> ((1 : Int32) &&& 31).toUInt32).toInt32)) else ((5 : Int32) - ((((((((x.toUInt32 >>> ((16 : Int32) &&& 31).toUInt32).toInt32).toUInt32 >>> ((8 : Int32) &&& 31).toUInt32).toInt32).toUInt32 >>> ((2 : Int32) &&& 31).toUInt32).toInt32).toUInt32 >>> ((1 : Int32) &&& 31).toUInt32).toInt32))) else (if ((((((x.toUInt32 >>> ((16 : Int32) &&& 31).toUInt32).toInt32).toUInt32 >>> ((8 : Int32) &&& 31).toUInt32).toInt32).toUInt32 >>> ((4 : Int32) &&& 31).toUInt32).toInt32) < (4 : Int32) then ((3 : Int32) - ((((((((x.toUInt32 >>> ((16 : Int32) &&& 31).toUInt32).toInt32).toUInt32 >>> ((8 : Int32) &&& 31).toUInt32).toInt32).toUInt32 >>> ((4 : Int32) &&& 31).toUInt32).toInt32).toUInt32 >>> ((1 : Int32) &&& 31).toUInt32).toInt32)) else ((1 : Int32) - ((((((((((x.toUInt32 >>> ((16 : Int32) &&& 31).toUInt32).toInt32).toUInt32 >>> ((8 : Int32) &&& 31).toUInt32).toInt32).toUInt32 >>> ((4 : Int32) &&& 31).toUInt32).toInt32).toUInt32 >>> ((2 : Int32) &&& 31).toUInt32).toInt32).toUInt32 >>> ((1 : Int32) &&& 31).toUInt32).toInt32)))))) else (if x = (0 : Int32) then (32 : Int32) else (0 : Int32)))
theorem own_dn_0 : decode jdk_33_method_47_code 0 = .ok (.iload_n 0, 1) := by decide +kernel
theorem own_dn_1 : decode jdk_33_method_47_code 1 = .ok (.ifCond .gt 14, 3) := by decide +kernel
theorem own_dn_4 : decode jdk_33_method_47_code 4 = .ok (.iload_n 0, 1) := by decide +kernel
theorem own_dn_5 : decode jdk_33_method_47_code 5 = .ok (.ifCond .ne 8, 3) := by decide +kernel
theorem own_dn_8 : decode jdk_33_method_47_code 8 = .ok (.bipush 32, 2) := by decide +kernel
theorem own_dn_10 : decode jdk_33_method_47_code 10 = .ok (.goto 4, 3) := by decide +kernel
theorem own_dn_13 : decode jdk_33_method_47_code 13 = .ok (.iconst 0, 1) := by decide +kernel
theorem own_dn_14 : decode jdk_33_method_47_code 14 = .ok (.ireturn, 1) := by decide +kernel
theorem own_dn_15 : decode jdk_33_method_47_code 15 = .ok (.bipush 31, 2) := by decide +kernel
theorem own_dn_17 : decode jdk_33_method_47_code 17 = .ok (.istore_n 1, 1) := by decide +kernel
theorem own_dn_18 : decode jdk_33_method_47_code 18 = .ok (.iload_n 0, 1) := by decide +kernel
theorem own_dn_19 : decode jdk_33_method_47_code 19 = .ok (.ldc_w 264, 3) := by decide +kernel
theorem own_dn_22 : decode jdk_33_method_47_code 22 = .ok (.if_icmp .lt 11, 3) := by decide +kernel
theorem own_dn_25 : decode jdk_33_method_47_code 25 = .ok (.iinc 1 (-16), 3) := by decide +kernel
theorem own_dn_28 : decode jdk_33_method_47_code 28 = .ok (.iload_n 0, 1) := by decide +kernel
theorem own_dn_29 : decode jdk_33_method_47_code 29 = .ok (.bipush 16, 2) := by decide +kernel
theorem own_dn_31 : decode jdk_33_method_47_code 31 = .ok (.iushr, 1) := by decide +kernel
theorem own_dn_32 : decode jdk_33_method_47_code 32 = .ok (.istore_n 0, 1) := by decide +kernel
theorem own_dn_33 : decode jdk_33_method_47_code 33 = .ok (.iload_n 0, 1) := by decide +kernel
theorem own_dn_34 : decode jdk_33_method_47_code 34 = .ok (.sipush 256, 3) := by decide +kernel
theorem own_dn_37 : decode jdk_33_method_47_code 37 = .ok (.if_icmp .lt 11, 3) := by decide +kernel
theorem own_dn_40 : decode jdk_33_method_47_code 40 = .ok (.iinc 1 (-8), 3) := by decide +kernel
theorem own_dn_43 : decode jdk_33_method_47_code 43 = .ok (.iload_n 0, 1) := by decide +kernel
theorem own_dn_44 : decode jdk_33_method_47_code 44 = .ok (.bipush 8, 2) := by decide +kernel
theorem own_dn_46 : decode jdk_33_method_47_code 46 = .ok (.iushr, 1) := by decide +kernel
theorem own_dn_47 : decode jdk_33_method_47_code 47 = .ok (.istore_n 0, 1) := by decide +kernel
theorem own_dn_48 : decode jdk_33_method_47_code 48 = .ok (.iload_n 0, 1) := by decide +kernel
theorem own_dn_49 : decode jdk_33_method_47_code 49 = .ok (.bipush 16, 2) := by decide +kernel
theorem own_dn_51 : decode jdk_33_method_47_code 51 = .ok (.if_icmp .lt 10, 3) := by decide +kernel
theorem own_dn_54 : decode jdk_33_method_47_code 54 = .ok (.iinc 1 (-4), 3) := by decide +kernel
theorem own_dn_57 : decode jdk_33_method_47_code 57 = .ok (.iload_n 0, 1) := by decide +kernel
theorem own_dn_58 : decode jdk_33_method_47_code 58 = .ok (.iconst 4, 1) := by decide +kernel
theorem own_dn_59 : decode jdk_33_method_47_code 59 = .ok (.iushr, 1) := by decide +kernel
theorem own_dn_60 : decode jdk_33_method_47_code 60 = .ok (.istore_n 0, 1) := by decide +kernel
theorem own_dn_61 : decode jdk_33_method_47_code 61 = .ok (.iload_n 0, 1) := by decide +kernel
theorem own_dn_62 : decode jdk_33_method_47_code 62 = .ok (.iconst 4, 1) := by decide +kernel
theorem own_dn_63 : decode jdk_33_method_47_code 63 = .ok (.if_icmp .lt 10, 3) := by decide +kernel
theorem own_dn_66 : decode jdk_33_method_47_code 66 = .ok (.iinc 1 (-2), 3) := by decide +kernel
theorem own_dn_69 : decode jdk_33_method_47_code 69 = .ok (.iload_n 0, 1) := by decide +kernel
theorem own_dn_70 : decode jdk_33_method_47_code 70 = .ok (.iconst 2, 1) := by decide +kernel
theorem own_dn_71 : decode jdk_33_method_47_code 71 = .ok (.iushr, 1) := by decide +kernel
theorem own_dn_72 : decode jdk_33_method_47_code 72 = .ok (.istore_n 0, 1) := by decide +kernel
theorem own_dn_73 : decode jdk_33_method_47_code 73 = .ok (.iload_n 1, 1) := by decide +kernel
theorem own_dn_74 : decode jdk_33_method_47_code 74 = .ok (.iload_n 0, 1) := by decide +kernel
theorem own_dn_75 : decode jdk_33_method_47_code 75 = .ok (.iconst 1, 1) := by decide +kernel
theorem own_dn_76 : decode jdk_33_method_47_code 76 = .ok (.iushr, 1) := by decide +kernel
theorem own_dn_77 : decode jdk_33_method_47_code 77 = .ok (.isub, 1) := by decide +kernel
theorem own_dn_78 : decode jdk_33_method_47_code 78 = .ok (.ireturn, 1) := by decide +kernel
theorem own_pn_own_nlzC : plainFor (⟨"java/lang/Integer", "numberOfLeadingZeros", "(I)I"⟩ : MethodName) = true := plainFor_of_name (show plainName "java/lang/Integer" = true by first | (simp [plainName, overriddenIn]; done) | decide +kernel)
set_option maxRecDepth 65536 in
set_option maxHeartbeats 40000000 in
theorem own_nlzC (l : Launch) (Z : State) (a0 : Array Value) (hw : ∀ d ∈ tables_1, d.before a0 Z = true) (ws : List Jvm.Cond) (h0 : Heap) (x : Int32)  :
    own_C l Z (⟨"java/lang/Integer", "numberOfLeadingZeros", "(I)I"⟩ : MethodName) jdk_33_method_47_code 2 (some .int) ws ({ frames := 0, cells := 0, slots := 0, locals := 0 } : Room) #[(.int x)] h0 (own_P (.int (own_nlz x)) h0) := by
  refine own_met own_pn_own_nlzC #[iv x, .unset] (fun m => by first | (simp [entryFrame, mkF, argsToLocals, Value.category]; done) | rfl) ?_
  intro p e s m below meth c s₁ hx hby hml hown hret hlk hZ hnm X0 e0
  refine own_go (mkF m 1 #[iv x, .unset] [(.int x)]) (fun t' k => XS.iloadN X0.here hx rfl (hb hby own_dn_0) rfl  k) ?_
  by_cases hc1 : (0 : Int32) < x
  · skip
    refine own_go (mkF m 15 #[iv x, .unset] []) (fun t' k => XS.ifYes X0.here hx rfl (pc0 := 1) (pc' := 15) rfl (hb hby own_dn_1) rfl ((if0 _ _).trans (tlt hc1).2.2.1) (by decide) (by decide) k) ?_
    refine own_go (mkF m 17 #[iv x, .unset] [(.int (31 : Int32))]) (fun t' k => XS.bipush X0.here hx rfl (hb hby own_dn_15) k) ?_
    refine own_go (mkF m 18 #[iv x, iv (31 : Int32)] []) (fun t' k => XS.istoreN X0.here hx rfl (hb hby own_dn_17) rfl (l' := #[iv x, iv (31 : Int32)]) rfl k) ?_
    refine own_go (mkF m 19 #[iv x, iv (31 : Int32)] [(.int x)]) (fun t' k => XS.iloadN X0.here hx rfl (hb hby own_dn_18) rfl  k) ?_
    refine own_go (mkF m 22 #[iv x, iv (31 : Int32)] [(.int (65536 : Int32)), (.int x)]) (fun t' k => X0.ldcwInt hx hown (mvT hZ (hw _ (List.mem_of_getElem? (i := 31) rfl))) (g := (mkF m 19 #[iv x, iv (31 : Int32)] [(.int x)])) rfl (hb hby own_dn_19) _ k) ?_
    by_cases hc22 : x < (65536 : Int32)
    · skip
      refine own_go (mkF m 33 #[iv x, iv (31 : Int32)] []) (fun t' k => XS.icmpYes X0.here hx rfl (pc0 := 22) (pc' := 33) rfl (hb hby own_dn_22) rfl (tlt hc22).1 (by decide) (by decide) k) ?_
      refine own_go (mkF m 34 #[iv x, iv (31 : Int32)] [(.int x)]) (fun t' k => XS.iloadN X0.here hx rfl (hb hby own_dn_33) rfl  k) ?_
      refine own_go (mkF m 37 #[iv x, iv (31 : Int32)] [(.int (256 : Int32)), (.int x)]) (fun t' k => XS.sipush X0.here hx rfl (hb hby own_dn_34) k) ?_
      by_cases hc37 : x < (256 : Int32)
      · skip
        refine own_go (mkF m 48 #[iv x, iv (31 : Int32)] []) (fun t' k => XS.icmpYes X0.here hx rfl (pc0 := 37) (pc' := 48) rfl (hb hby own_dn_37) rfl (tlt hc37).1 (by decide) (by decide) k) ?_
        refine own_go (mkF m 49 #[iv x, iv (31 : Int32)] [(.int x)]) (fun t' k => XS.iloadN X0.here hx rfl (hb hby own_dn_48) rfl  k) ?_
        refine own_go (mkF m 51 #[iv x, iv (31 : Int32)] [(.int (16 : Int32)), (.int x)]) (fun t' k => XS.bipush X0.here hx rfl (hb hby own_dn_49) k) ?_
        by_cases hc51 : x < (16 : Int32)
        · skip
          refine own_go (mkF m 61 #[iv x, iv (31 : Int32)] []) (fun t' k => XS.icmpYes X0.here hx rfl (pc0 := 51) (pc' := 61) rfl (hb hby own_dn_51) rfl (tlt hc51).1 (by decide) (by decide) k) ?_
          refine own_go (mkF m 62 #[iv x, iv (31 : Int32)] [(.int x)]) (fun t' k => XS.iloadN X0.here hx rfl (hb hby own_dn_61) rfl  k) ?_
          refine own_go (mkF m 63 #[iv x, iv (31 : Int32)] [(.int (4 : Int32)), (.int x)]) (fun t' k => XS.iconst X0.here hx rfl (hb hby own_dn_62) k) ?_
          by_cases hc63 : x < (4 : Int32)
          · skip
            refine own_go (mkF m 73 #[iv x, iv (31 : Int32)] []) (fun t' k => XS.icmpYes X0.here hx rfl (pc0 := 63) (pc' := 73) rfl (hb hby own_dn_63) rfl (tlt hc63).1 (by decide) (by decide) k) ?_
            refine own_go (mkF m 74 #[iv x, iv (31 : Int32)] [(.int (31 : Int32))]) (fun t' k => XS.iloadN X0.here hx rfl (hb hby own_dn_73) rfl  k) ?_
            refine own_go (mkF m 75 #[iv x, iv (31 : Int32)] [(.int x), (.int (31 : Int32))]) (fun t' k => XS.iloadN X0.here hx rfl (hb hby own_dn_74) rfl  k) ?_
            refine own_go (mkF m 76 #[iv x, iv (31 : Int32)] [(.int (1 : Int32)), (.int x), (.int (31 : Int32))]) (fun t' k => XS.iconst X0.here hx rfl (hb hby own_dn_75) k) ?_
            refine own_go (mkF m 77 #[iv x, iv (31 : Int32)] [(.int ((x.toUInt32 >>> ((1 : Int32) &&& 31).toUInt32).toInt32)), (.int (31 : Int32))]) (fun t' k => XS.iushr X0.here hx rfl (hb hby own_dn_76) rfl k) ?_
            refine own_go (mkF m 78 #[iv x, iv (31 : Int32)] [(.int ((31 : Int32) - ((x.toUInt32 >>> ((1 : Int32) &&& 31).toUInt32).toInt32)))]) (fun t' k => XS.isub X0.here hx rfl (hb hby own_dn_77) rfl k) ?_
            refine own_retI X0 hx hlk hret (hb hby own_dn_78) ?_ (by decide) (by decide)
            exact ⟨congrArg (fun z => some (Value.int z)) ((show (own_nlz x) = ((31 : Int32) - ((x.toUInt32 >>> ((1 : Int32) &&& 31).toUInt32).toInt32)) from ((if_pos hc1).trans ((if_pos hc22).trans ((if_pos hc37).trans ((if_pos hc51).trans ((if_pos hc63).trans rfl)))))).trans (by rfl : ((31 : Int32) - ((x.toUInt32 >>> ((1 : Int32) &&& 31).toUInt32).toInt32)) = ((31 : Int32) - ((x.toUInt32 >>> ((1 : Int32) &&& 31).toUInt32).toInt32)))).symm, e0, rfl⟩
          · skip
            refine own_go (mkF m 66 #[iv x, iv (31 : Int32)] []) (fun t' k => XS.icmpNo X0.here hx rfl (hb hby own_dn_63) rfl (flt hc63).1 k) ?_
            refine own_go (mkF m 69 #[iv x, iv (29 : Int32)] []) (fun t' k => XS.iinc X0.here hx rfl (hb hby own_dn_66) rfl (l' := #[iv x, iv (29 : Int32)]) rfl k) ?_
            refine own_go (mkF m 70 #[iv x, iv (29 : Int32)] [(.int x)]) (fun t' k => XS.iloadN X0.here hx rfl (hb hby own_dn_69) rfl  k) ?_
            refine own_go (mkF m 71 #[iv x, iv (29 : Int32)] [(.int (2 : Int32)), (.int x)]) (fun t' k => XS.iconst X0.here hx rfl (hb hby own_dn_70) k) ?_
            refine own_go (mkF m 72 #[iv x, iv (29 : Int32)] [(.int ((x.toUInt32 >>> ((2 : Int32) &&& 31).toUInt32).toInt32))]) (fun t' k => XS.iushr X0.here hx rfl (hb hby own_dn_71) rfl k) ?_
            refine own_go (mkF m 73 #[iv ((x.toUInt32 >>> ((2 : Int32) &&& 31).toUInt32).toInt32), iv (29 : Int32)] []) (fun t' k => XS.istoreN X0.here hx rfl (hb hby own_dn_72) rfl (l' := #[iv ((x.toUInt32 >>> ((2 : Int32) &&& 31).toUInt32).toInt32), iv (29 : Int32)]) rfl k) ?_
            refine own_go (mkF m 74 #[iv ((x.toUInt32 >>> ((2 : Int32) &&& 31).toUInt32).toInt32), iv (29 : Int32)] [(.int (29 : Int32))]) (fun t' k => XS.iloadN X0.here hx rfl (hb hby own_dn_73) rfl  k) ?_
            refine own_go (mkF m 75 #[iv ((x.toUInt32 >>> ((2 : Int32) &&& 31).toUInt32).toInt32), iv (29 : Int32)] [(.int ((x.toUInt32 >>> ((2 : Int32) &&& 31).toUInt32).toInt32)), (.int (29 : Int32))]) (fun t' k => XS.iloadN X0.here hx rfl (hb hby own_dn_74) rfl  k) ?_
            refine own_go (mkF m 76 #[iv ((x.toUInt32 >>> ((2 : Int32) &&& 31).toUInt32).toInt32), iv (29 : Int32)] [(.int (1 : Int32)), (.int ((x.toUInt32 >>> ((2 : Int32) &&& 31).toUInt32).toInt32)), (.int (29 : Int32))]) (fun t' k => XS.iconst X0.here hx rfl (hb hby own_dn_75) k) ?_
            refine own_go (mkF m 77 #[iv ((x.toUInt32 >>> ((2 : Int32) &&& 31).toUInt32).toInt32), iv (29 : Int32)] [(.int ((((x.toUInt32 >>> ((2 : Int32) &&& 31).toUInt32).toInt32).toUInt32 >>> ((1 : Int32) &&& 31).toUInt32).toInt32)), (.int (29 : Int32))]) (fun t' k => XS.iushr X0.here hx rfl (hb hby own_dn_76) rfl k) ?_
            refine own_go (mkF m 78 #[iv ((x.toUInt32 >>> ((2 : Int32) &&& 31).toUInt32).toInt32), iv (29 : Int32)] [(.int ((29 : Int32) - ((((x.toUInt32 >>> ((2 : Int32) &&& 31).toUInt32).toInt32).toUInt32 >>> ((1 : Int32) &&& 31).toUInt32).toInt32)))]) (fun t' k => XS.isub X0.here hx rfl (hb hby own_dn_77) rfl k) ?_
            refine own_retI X0 hx hlk hret (hb hby own_dn_78) ?_ (by decide) (by decide)
            exact ⟨congrArg (fun z => some (Value.int z)) ((show (own_nlz x) = ((29 : Int32) - ((((x.toUInt32 >>> ((2 : Int32) &&& 31).toUInt32).toInt32).toUInt32 >>> ((1 : Int32) &&& 31).toUInt32).toInt32)) from ((if_pos hc1).trans ((if_pos hc22).trans ((if_pos hc37).trans ((if_pos hc51).trans ((if_neg hc63).trans rfl)))))).trans (by rfl : ((29 : Int32) - ((((x.toUInt32 >>> ((2 : Int32) &&& 31).toUInt32).toInt32).toUInt32 >>> ((1 : Int32) &&& 31).toUInt32).toInt32)) = ((29 : Int32) - ((((x.toUInt32 >>> ((2 : Int32) &&& 31).toUInt32).toInt32).toUInt32 >>> ((1 : Int32) &&& 31).toUInt32).toInt32)))).symm, e0, rfl⟩
        · skip
          refine own_go (mkF m 54 #[iv x, iv (31 : Int32)] []) (fun t' k => XS.icmpNo X0.here hx rfl (hb hby own_dn_51) rfl (flt hc51).1 k) ?_
          refine own_go (mkF m 57 #[iv x, iv (27 : Int32)] []) (fun t' k => XS.iinc X0.here hx rfl (hb hby own_dn_54) rfl (l' := #[iv x, iv (27 : Int32)]) rfl k) ?_
          refine own_go (mkF m 58 #[iv x, iv (27 : Int32)] [(.int x)]) (fun t' k => XS.iloadN X0.here hx rfl (hb hby own_dn_57) rfl  k) ?_
          refine own_go (mkF m 59 #[iv x, iv (27 : Int32)] [(.int (4 : Int32)), (.int x)]) (fun t' k => XS.iconst X0.here hx rfl (hb hby own_dn_58) k) ?_
          refine own_go (mkF m 60 #[iv x, iv (27 : Int32)] [(.int ((x.toUInt32 >>> ((4 : Int32) &&& 31).toUInt32).toInt32))]) (fun t' k => XS.iushr X0.here hx rfl (hb hby own_dn_59) rfl k) ?_
          refine own_go (mkF m 61 #[iv ((x.toUInt32 >>> ((4 : Int32) &&& 31).toUInt32).toInt32), iv (27 : Int32)] []) (fun t' k => XS.istoreN X0.here hx rfl (hb hby own_dn_60) rfl (l' := #[iv ((x.toUInt32 >>> ((4 : Int32) &&& 31).toUInt32).toInt32), iv (27 : Int32)]) rfl k) ?_
          refine own_go (mkF m 62 #[iv ((x.toUInt32 >>> ((4 : Int32) &&& 31).toUInt32).toInt32), iv (27 : Int32)] [(.int ((x.toUInt32 >>> ((4 : Int32) &&& 31).toUInt32).toInt32))]) (fun t' k => XS.iloadN X0.here hx rfl (hb hby own_dn_61) rfl  k) ?_
          refine own_go (mkF m 63 #[iv ((x.toUInt32 >>> ((4 : Int32) &&& 31).toUInt32).toInt32), iv (27 : Int32)] [(.int (4 : Int32)), (.int ((x.toUInt32 >>> ((4 : Int32) &&& 31).toUInt32).toInt32))]) (fun t' k => XS.iconst X0.here hx rfl (hb hby own_dn_62) k) ?_
          by_cases hc63 : ((x.toUInt32 >>> ((4 : Int32) &&& 31).toUInt32).toInt32) < (4 : Int32)
          · skip
            refine own_go (mkF m 73 #[iv ((x.toUInt32 >>> ((4 : Int32) &&& 31).toUInt32).toInt32), iv (27 : Int32)] []) (fun t' k => XS.icmpYes X0.here hx rfl (pc0 := 63) (pc' := 73) rfl (hb hby own_dn_63) rfl (tlt hc63).1 (by decide) (by decide) k) ?_
            refine own_go (mkF m 74 #[iv ((x.toUInt32 >>> ((4 : Int32) &&& 31).toUInt32).toInt32), iv (27 : Int32)] [(.int (27 : Int32))]) (fun t' k => XS.iloadN X0.here hx rfl (hb hby own_dn_73) rfl  k) ?_
            refine own_go (mkF m 75 #[iv ((x.toUInt32 >>> ((4 : Int32) &&& 31).toUInt32).toInt32), iv (27 : Int32)] [(.int ((x.toUInt32 >>> ((4 : Int32) &&& 31).toUInt32).toInt32)), (.int (27 : Int32))]) (fun t' k => XS.iloadN X0.here hx rfl (hb hby own_dn_74) rfl  k) ?_
            refine own_go (mkF m 76 #[iv ((x.toUInt32 >>> ((4 : Int32) &&& 31).toUInt32).toInt32), iv (27 : Int32)] [(.int (1 : Int32)), (.int ((x.toUInt32 >>> ((4 : Int32) &&& 31).toUInt32).toInt32)), (.int (27 : Int32))]) (fun t' k => XS.iconst X0.here hx rfl (hb hby own_dn_75) k) ?_
            refine own_go (mkF m 77 #[iv ((x.toUInt32 >>> ((4 : Int32) &&& 31).toUInt32).toInt32), iv (27 : Int32)] [(.int ((((x.toUInt32 >>> ((4 : Int32) &&& 31).toUInt32).toInt32).toUInt32 >>> ((1 : Int32) &&& 31).toUInt32).toInt32)), (.int (27 : Int32))]) (fun t' k => XS.iushr X0.here hx rfl (hb hby own_dn_76) rfl k) ?_
            refine own_go (mkF m 78 #[iv ((x.toUInt32 >>> ((4 : Int32) &&& 31).toUInt32).toInt32), iv (27 : Int32)] [(.int ((27 : Int32) - ((((x.toUInt32 >>> ((4 : Int32) &&& 31).toUInt32).toInt32).toUInt32 >>> ((1 : Int32) &&& 31).toUInt32).toInt32)))]) (fun t' k => XS.isub X0.here hx rfl (hb hby own_dn_77) rfl k) ?_
            refine own_retI X0 hx hlk hret (hb hby own_dn_78) ?_ (by decide) (by decide)
            exact ⟨congrArg (fun z => some (Value.int z)) ((show (own_nlz x) = ((27 : Int32) - ((((x.toUInt32 >>> ((4 : Int32) &&& 31).toUInt32).toInt32).toUInt32 >>> ((1 : Int32) &&& 31).toUInt32).toInt32)) from ((if_pos hc1).trans ((if_pos hc22).trans ((if_pos hc37).trans ((if_neg hc51).trans ((if_pos hc63).trans rfl)))))).trans (by rfl : ((27 : Int32) - ((((x.toUInt32 >>> ((4 : Int32) &&& 31).toUInt32).toInt32).toUInt32 >>> ((1 : Int32) &&& 31).toUInt32).toInt32)) = ((27 : Int32) - ((((x.toUInt32 >>> ((4 : Int32) &&& 31).toUInt32).toInt32).toUInt32 >>> ((1 : Int32) &&& 31).toUInt32).toInt32)))).symm, e0, rfl⟩
          · skip
            refine own_go (mkF m 66 #[iv ((x.toUInt32 >>> ((4 : Int32) &&& 31).toUInt32).toInt32), iv (27 : Int32)] []) (fun t' k => XS.icmpNo X0.here hx rfl (hb hby own_dn_63) rfl (flt hc63).1 k) ?_
            refine own_go (mkF m 69 #[iv ((x.toUInt32 >>> ((4 : Int32) &&& 31).toUInt32).toInt32), iv (25 : Int32)] []) (fun t' k => XS.iinc X0.here hx rfl (hb hby own_dn_66) rfl (l' := #[iv ((x.toUInt32 >>> ((4 : Int32) &&& 31).toUInt32).toInt32), iv (25 : Int32)]) rfl k) ?_
            refine own_go (mkF m 70 #[iv ((x.toUInt32 >>> ((4 : Int32) &&& 31).toUInt32).toInt32), iv (25 : Int32)] [(.int ((x.toUInt32 >>> ((4 : Int32) &&& 31).toUInt32).toInt32))]) (fun t' k => XS.iloadN X0.here hx rfl (hb hby own_dn_69) rfl  k) ?_
            refine own_go (mkF m 71 #[iv ((x.toUInt32 >>> ((4 : Int32) &&& 31).toUInt32).toInt32), iv (25 : Int32)] [(.int (2 : Int32)), (.int ((x.toUInt32 >>> ((4 : Int32) &&& 31).toUInt32).toInt32))]) (fun t' k => XS.iconst X0.here hx rfl (hb hby own_dn_70) k) ?_
            refine own_go (mkF m 72 #[iv ((x.toUInt32 >>> ((4 : Int32) &&& 31).toUInt32).toInt32), iv (25 : Int32)] [(.int ((((x.toUInt32 >>> ((4 : Int32) &&& 31).toUInt32).toInt32).toUInt32 >>> ((2 : Int32) &&& 31).toUInt32).toInt32))]) (fun t' k => XS.iushr X0.here hx rfl (hb hby own_dn_71) rfl k) ?_
            refine own_go (mkF m 73 #[iv ((((x.toUInt32 >>> ((4 : Int32) &&& 31).toUInt32).toInt32).toUInt32 >>> ((2 : Int32) &&& 31).toUInt32).toInt32), iv (25 : Int32)] []) (fun t' k => XS.istoreN X0.here hx rfl (hb hby own_dn_72) rfl (l' := #[iv ((((x.toUInt32 >>> ((4 : Int32) &&& 31).toUInt32).toInt32).toUInt32 >>> ((2 : Int32) &&& 31).toUInt32).toInt32), iv (25 : Int32)]) rfl k) ?_
            refine own_go (mkF m 74 #[iv ((((x.toUInt32 >>> ((4 : Int32) &&& 31).toUInt32).toInt32).toUInt32 >>> ((2 : Int32) &&& 31).toUInt32).toInt32), iv (25 : Int32)] [(.int (25 : Int32))]) (fun t' k => XS.iloadN X0.here hx rfl (hb hby own_dn_73) rfl  k) ?_
            refine own_go (mkF m 75 #[iv ((((x.toUInt32 >>> ((4 : Int32) &&& 31).toUInt32).toInt32).toUInt32 >>> ((2 : Int32) &&& 31).toUInt32).toInt32), iv (25 : Int32)] [(.int ((((x.toUInt32 >>> ((4 : Int32) &&& 31).toUInt32).toInt32).toUInt32 >>> ((2 : Int32) &&& 31).toUInt32).toInt32)), (.int (25 : Int32))]) (fun t' k => XS.iloadN X0.here hx rfl (hb hby own_dn_74) rfl  k) ?_
            refine own_go (mkF m 76 #[iv ((((x.toUInt32 >>> ((4 : Int32) &&& 31).toUInt32).toInt32).toUInt32 >>> ((2 : Int32) &&& 31).toUInt32).toInt32), iv (25 : Int32)] [(.int (1 : Int32)), (.int ((((x.toUInt32 >>> ((4 : Int32) &&& 31).toUInt32).toInt32).toUInt32 >>> ((2 : Int32) &&& 31).toUInt32).toInt32)), (.int (25 : Int32))]) (fun t' k => XS.iconst X0.here hx rfl (hb hby own_dn_75) k) ?_
            refine own_go (mkF m 77 #[iv ((((x.toUInt32 >>> ((4 : Int32) &&& 31).toUInt32).toInt32).toUInt32 >>> ((2 : Int32) &&& 31).toUInt32).toInt32), iv (25 : Int32)] [(.int ((((((x.toUInt32 >>> ((4 : Int32) &&& 31).toUInt32).toInt32).toUInt32 >>> ((2 : Int32) &&& 31).toUInt32).toInt32).toUInt32 >>> ((1 : Int32) &&& 31).toUInt32).toInt32)), (.int (25 : Int32))]) (fun t' k => XS.iushr X0.here hx rfl (hb hby own_dn_76) rfl k) ?_
            refine own_go (mkF m 78 #[iv ((((x.toUInt32 >>> ((4 : Int32) &&& 31).toUInt32).toInt32).toUInt32 >>> ((2 : Int32) &&& 31).toUInt32).toInt32), iv (25 : Int32)] [(.int ((25 : Int32) - ((((((x.toUInt32 >>> ((4 : Int32) &&& 31).toUInt32).toInt32).toUInt32 >>> ((2 : Int32) &&& 31).toUInt32).toInt32).toUInt32 >>> ((1 : Int32) &&& 31).toUInt32).toInt32)))]) (fun t' k => XS.isub X0.here hx rfl (hb hby own_dn_77) rfl k) ?_
            refine own_retI X0 hx hlk hret (hb hby own_dn_78) ?_ (by decide) (by decide)
            exact ⟨congrArg (fun z => some (Value.int z)) ((show (own_nlz x) = ((25 : Int32) - ((((((x.toUInt32 >>> ((4 : Int32) &&& 31).toUInt32).toInt32).toUInt32 >>> ((2 : Int32) &&& 31).toUInt32).toInt32).toUInt32 >>> ((1 : Int32) &&& 31).toUInt32).toInt32)) from ((if_pos hc1).trans ((if_pos hc22).trans ((if_pos hc37).trans ((if_neg hc51).trans ((if_neg hc63).trans rfl)))))).trans (by rfl : ((25 : Int32) - ((((((x.toUInt32 >>> ((4 : Int32) &&& 31).toUInt32).toInt32).toUInt32 >>> ((2 : Int32) &&& 31).toUInt32).toInt32).toUInt32 >>> ((1 : Int32) &&& 31).toUInt32).toInt32)) = ((25 : Int32) - ((((((x.toUInt32 >>> ((4 : Int32) &&& 31).toUInt32).toInt32).toUInt32 >>> ((2 : Int32) &&& 31).toUInt32).toInt32).toUInt32 >>> ((1 : Int32) &&& 31).toUInt32).toInt32)))).symm, e0, rfl⟩
      · skip
        refine own_go (mkF m 40 #[iv x, iv (31 : Int32)] []) (fun t' k => XS.icmpNo X0.here hx rfl (hb hby own_dn_37) rfl (flt hc37).1 k) ?_
        refine own_go (mkF m 43 #[iv x, iv (23 : Int32)] []) (fun t' k => XS.iinc X0.here hx rfl (hb hby own_dn_40) rfl (l' := #[iv x, iv (23 : Int32)]) rfl k) ?_
        refine own_go (mkF m 44 #[iv x, iv (23 : Int32)] [(.int x)]) (fun t' k => XS.iloadN X0.here hx rfl (hb hby own_dn_43) rfl  k) ?_
        refine own_go (mkF m 46 #[iv x, iv (23 : Int32)] [(.int (8 : Int32)), (.int x)]) (fun t' k => XS.bipush X0.here hx rfl (hb hby own_dn_44) k) ?_
        refine own_go (mkF m 47 #[iv x, iv (23 : Int32)] [(.int ((x.toUInt32 >>> ((8 : Int32) &&& 31).toUInt32).toInt32))]) (fun t' k => XS.iushr X0.here hx rfl (hb hby own_dn_46) rfl k) ?_
        refine own_go (mkF m 48 #[iv ((x.toUInt32 >>> ((8 : Int32) &&& 31).toUInt32).toInt32), iv (23 : Int32)] []) (fun t' k => XS.istoreN X0.here hx rfl (hb hby own_dn_47) rfl (l' := #[iv ((x.toUInt32 >>> ((8 : Int32) &&& 31).toUInt32).toInt32), iv (23 : Int32)]) rfl k) ?_
        refine own_go (mkF m 49 #[iv ((x.toUInt32 >>> ((8 : Int32) &&& 31).toUInt32).toInt32), iv (23 : Int32)] [(.int ((x.toUInt32 >>> ((8 : Int32) &&& 31).toUInt32).toInt32))]) (fun t' k => XS.iloadN X0.here hx rfl (hb hby own_dn_48) rfl  k) ?_
        refine own_go (mkF m 51 #[iv ((x.toUInt32 >>> ((8 : Int32) &&& 31).toUInt32).toInt32), iv (23 : Int32)] [(.int (16 : Int32)), (.int ((x.toUInt32 >>> ((8 : Int32) &&& 31).toUInt32).toInt32))]) (fun t' k => XS.bipush X0.here hx rfl (hb hby own_dn_49) k) ?_
        by_cases hc51 : ((x.toUInt32 >>> ((8 : Int32) &&& 31).toUInt32).toInt32) < (16 : Int32)
        · skip
          refine own_go (mkF m 61 #[iv ((x.toUInt32 >>> ((8 : Int32) &&& 31).toUInt32).toInt32), iv (23 : Int32)] []) (fun t' k => XS.icmpYes X0.here hx rfl (pc0 := 51) (pc' := 61) rfl (hb hby own_dn_51) rfl (tlt hc51).1 (by decide) (by decide) k) ?_
          refine own_go (mkF m 62 #[iv ((x.toUInt32 >>> ((8 : Int32) &&& 31).toUInt32).toInt32), iv (23 : Int32)] [(.int ((x.toUInt32 >>> ((8 : Int32) &&& 31).toUInt32).toInt32))]) (fun t' k => XS.iloadN X0.here hx rfl (hb hby own_dn_61) rfl  k) ?_
          refine own_go (mkF m 63 #[iv ((x.toUInt32 >>> ((8 : Int32) &&& 31).toUInt32).toInt32), iv (23 : Int32)] [(.int (4 : Int32)), (.int ((x.toUInt32 >>> ((8 : Int32) &&& 31).toUInt32).toInt32))]) (fun t' k => XS.iconst X0.here hx rfl (hb hby own_dn_62) k) ?_
          by_cases hc63 : ((x.toUInt32 >>> ((8 : Int32) &&& 31).toUInt32).toInt32) < (4 : Int32)
          · skip
            refine own_go (mkF m 73 #[iv ((x.toUInt32 >>> ((8 : Int32) &&& 31).toUInt32).toInt32), iv (23 : Int32)] []) (fun t' k => XS.icmpYes X0.here hx rfl (pc0 := 63) (pc' := 73) rfl (hb hby own_dn_63) rfl (tlt hc63).1 (by decide) (by decide) k) ?_
            refine own_go (mkF m 74 #[iv ((x.toUInt32 >>> ((8 : Int32) &&& 31).toUInt32).toInt32), iv (23 : Int32)] [(.int (23 : Int32))]) (fun t' k => XS.iloadN X0.here hx rfl (hb hby own_dn_73) rfl  k) ?_
            refine own_go (mkF m 75 #[iv ((x.toUInt32 >>> ((8 : Int32) &&& 31).toUInt32).toInt32), iv (23 : Int32)] [(.int ((x.toUInt32 >>> ((8 : Int32) &&& 31).toUInt32).toInt32)), (.int (23 : Int32))]) (fun t' k => XS.iloadN X0.here hx rfl (hb hby own_dn_74) rfl  k) ?_
            refine own_go (mkF m 76 #[iv ((x.toUInt32 >>> ((8 : Int32) &&& 31).toUInt32).toInt32), iv (23 : Int32)] [(.int (1 : Int32)), (.int ((x.toUInt32 >>> ((8 : Int32) &&& 31).toUInt32).toInt32)), (.int (23 : Int32))]) (fun t' k => XS.iconst X0.here hx rfl (hb hby own_dn_75) k) ?_
            refine own_go (mkF m 77 #[iv ((x.toUInt32 >>> ((8 : Int32) &&& 31).toUInt32).toInt32), iv (23 : Int32)] [(.int ((((x.toUInt32 >>> ((8 : Int32) &&& 31).toUInt32).toInt32).toUInt32 >>> ((1 : Int32) &&& 31).toUInt32).toInt32)), (.int (23 : Int32))]) (fun t' k => XS.iushr X0.here hx rfl (hb hby own_dn_76) rfl k) ?_
            refine own_go (mkF m 78 #[iv ((x.toUInt32 >>> ((8 : Int32) &&& 31).toUInt32).toInt32), iv (23 : Int32)] [(.int ((23 : Int32) - ((((x.toUInt32 >>> ((8 : Int32) &&& 31).toUInt32).toInt32).toUInt32 >>> ((1 : Int32) &&& 31).toUInt32).toInt32)))]) (fun t' k => XS.isub X0.here hx rfl (hb hby own_dn_77) rfl k) ?_
            refine own_retI X0 hx hlk hret (hb hby own_dn_78) ?_ (by decide) (by decide)
            exact ⟨congrArg (fun z => some (Value.int z)) ((show (own_nlz x) = ((23 : Int32) - ((((x.toUInt32 >>> ((8 : Int32) &&& 31).toUInt32).toInt32).toUInt32 >>> ((1 : Int32) &&& 31).toUInt32).toInt32)) from ((if_pos hc1).trans ((if_pos hc22).trans ((if_neg hc37).trans ((if_pos hc51).trans ((if_pos hc63).trans rfl)))))).trans (by rfl : ((23 : Int32) - ((((x.toUInt32 >>> ((8 : Int32) &&& 31).toUInt32).toInt32).toUInt32 >>> ((1 : Int32) &&& 31).toUInt32).toInt32)) = ((23 : Int32) - ((((x.toUInt32 >>> ((8 : Int32) &&& 31).toUInt32).toInt32).toUInt32 >>> ((1 : Int32) &&& 31).toUInt32).toInt32)))).symm, e0, rfl⟩
          · skip
            refine own_go (mkF m 66 #[iv ((x.toUInt32 >>> ((8 : Int32) &&& 31).toUInt32).toInt32), iv (23 : Int32)] []) (fun t' k => XS.icmpNo X0.here hx rfl (hb hby own_dn_63) rfl (flt hc63).1 k) ?_
            refine own_go (mkF m 69 #[iv ((x.toUInt32 >>> ((8 : Int32) &&& 31).toUInt32).toInt32), iv (21 : Int32)] []) (fun t' k => XS.iinc X0.here hx rfl (hb hby own_dn_66) rfl (l' := #[iv ((x.toUInt32 >>> ((8 : Int32) &&& 31).toUInt32).toInt32), iv (21 : Int32)]) rfl k) ?_
            refine own_go (mkF m 70 #[iv ((x.toUInt32 >>> ((8 : Int32) &&& 31).toUInt32).toInt32), iv (21 : Int32)] [(.int ((x.toUInt32 >>> ((8 : Int32) &&& 31).toUInt32).toInt32))]) (fun t' k => XS.iloadN X0.here hx rfl (hb hby own_dn_69) rfl  k) ?_
            refine own_go (mkF m 71 #[iv ((x.toUInt32 >>> ((8 : Int32) &&& 31).toUInt32).toInt32), iv (21 : Int32)] [(.int (2 : Int32)), (.int ((x.toUInt32 >>> ((8 : Int32) &&& 31).toUInt32).toInt32))]) (fun t' k => XS.iconst X0.here hx rfl (hb hby own_dn_70) k) ?_
            refine own_go (mkF m 72 #[iv ((x.toUInt32 >>> ((8 : Int32) &&& 31).toUInt32).toInt32), iv (21 : Int32)] [(.int ((((x.toUInt32 >>> ((8 : Int32) &&& 31).toUInt32).toInt32).toUInt32 >>> ((2 : Int32) &&& 31).toUInt32).toInt32))]) (fun t' k => XS.iushr X0.here hx rfl (hb hby own_dn_71) rfl k) ?_
            refine own_go (mkF m 73 #[iv ((((x.toUInt32 >>> ((8 : Int32) &&& 31).toUInt32).toInt32).toUInt32 >>> ((2 : Int32) &&& 31).toUInt32).toInt32), iv (21 : Int32)] []) (fun t' k => XS.istoreN X0.here hx rfl (hb hby own_dn_72) rfl (l' := #[iv ((((x.toUInt32 >>> ((8 : Int32) &&& 31).toUInt32).toInt32).toUInt32 >>> ((2 : Int32) &&& 31).toUInt32).toInt32), iv (21 : Int32)]) rfl k) ?_
            refine own_go (mkF m 74 #[iv ((((x.toUInt32 >>> ((8 : Int32) &&& 31).toUInt32).toInt32).toUInt32 >>> ((2 : Int32) &&& 31).toUInt32).toInt32), iv (21 : Int32)] [(.int (21 : Int32))]) (fun t' k => XS.iloadN X0.here hx rfl (hb hby own_dn_73) rfl  k) ?_
            refine own_go (mkF m 75 #[iv ((((x.toUInt32 >>> ((8 : Int32) &&& 31).toUInt32).toInt32).toUInt32 >>> ((2 : Int32) &&& 31).toUInt32).toInt32), iv (21 : Int32)] [(.int ((((x.toUInt32 >>> ((8 : Int32) &&& 31).toUInt32).toInt32).toUInt32 >>> ((2 : Int32) &&& 31).toUInt32).toInt32)), (.int (21 : Int32))]) (fun t' k => XS.iloadN X0.here hx rfl (hb hby own_dn_74) rfl  k) ?_
            refine own_go (mkF m 76 #[iv ((((x.toUInt32 >>> ((8 : Int32) &&& 31).toUInt32).toInt32).toUInt32 >>> ((2 : Int32) &&& 31).toUInt32).toInt32), iv (21 : Int32)] [(.int (1 : Int32)), (.int ((((x.toUInt32 >>> ((8 : Int32) &&& 31).toUInt32).toInt32).toUInt32 >>> ((2 : Int32) &&& 31).toUInt32).toInt32)), (.int (21 : Int32))]) (fun t' k => XS.iconst X0.here hx rfl (hb hby own_dn_75) k) ?_
            refine own_go (mkF m 77 #[iv ((((x.toUInt32 >>> ((8 : Int32) &&& 31).toUInt32).toInt32).toUInt32 >>> ((2 : Int32) &&& 31).toUInt32).toInt32), iv (21 : Int32)] [(.int ((((((x.toUInt32 >>> ((8 : Int32) &&& 31).toUInt32).toInt32).toUInt32 >>> ((2 : Int32) &&& 31).toUInt32).toInt32).toUInt32 >>> ((1 : Int32) &&& 31).toUInt32).toInt32)), (.int (21 : Int32))]) (fun t' k => XS.iushr X0.here hx rfl (hb hby own_dn_76) rfl k) ?_
            refine own_go (mkF m 78 #[iv ((((x.toUInt32 >>> ((8 : Int32) &&& 31).toUInt32).toInt32).toUInt32 >>> ((2 : Int32) &&& 31).toUInt32).toInt32), iv (21 : Int32)] [(.int ((21 : Int32) - ((((((x.toUInt32 >>> ((8 : Int32) &&& 31).toUInt32).toInt32).toUInt32 >>> ((2 : Int32) &&& 31).toUInt32).toInt32).toUInt32 >>> ((1 : Int32) &&& 31).toUInt32).toInt32)))]) (fun t' k => XS.isub X0.here hx rfl (hb hby own_dn_77) rfl k) ?_
            refine own_retI X0 hx hlk hret (hb hby own_dn_78) ?_ (by decide) (by decide)
            exact ⟨congrArg (fun z => some (Value.int z)) ((show (own_nlz x) = ((21 : Int32) - ((((((x.toUInt32 >>> ((8 : Int32) &&& 31).toUInt32).toInt32).toUInt32 >>> ((2 : Int32) &&& 31).toUInt32).toInt32).toUInt32 >>> ((1 : Int32) &&& 31).toUInt32).toInt32)) from ((if_pos hc1).trans ((if_pos hc22).trans ((if_neg hc37).trans ((if_pos hc51).trans ((if_neg hc63).trans rfl)))))).trans (by rfl : ((21 : Int32) - ((((((x.toUInt32 >>> ((8 : Int32) &&& 31).toUInt32).toInt32).toUInt32 >>> ((2 : Int32) &&& 31).toUInt32).toInt32).toUInt32 >>> ((1 : Int32) &&& 31).toUInt32).toInt32)) = ((21 : Int32) - ((((((x.toUInt32 >>> ((8 : Int32) &&& 31).toUInt32).toInt32).toUInt32 >>> ((2 : Int32) &&& 31).toUInt32).toInt32).toUInt32 >>> ((1 : Int32) &&& 31).toUInt32).toInt32)))).symm, e0, rfl⟩
        · skip
          refine own_go (mkF m 54 #[iv ((x.toUInt32 >>> ((8 : Int32) &&& 31).toUInt32).toInt32), iv (23 : Int32)] []) (fun t' k => XS.icmpNo X0.here hx rfl (hb hby own_dn_51) rfl (flt hc51).1 k) ?_
          refine own_go (mkF m 57 #[iv ((x.toUInt32 >>> ((8 : Int32) &&& 31).toUInt32).toInt32), iv (19 : Int32)] []) (fun t' k => XS.iinc X0.here hx rfl (hb hby own_dn_54) rfl (l' := #[iv ((x.toUInt32 >>> ((8 : Int32) &&& 31).toUInt32).toInt32), iv (19 : Int32)]) rfl k) ?_
          refine own_go (mkF m 58 #[iv ((x.toUInt32 >>> ((8 : Int32) &&& 31).toUInt32).toInt32), iv (19 : Int32)] [(.int ((x.toUInt32 >>> ((8 : Int32) &&& 31).toUInt32).toInt32))]) (fun t' k => XS.iloadN X0.here hx rfl (hb hby own_dn_57) rfl  k) ?_
          refine own_go (mkF m 59 #[iv ((x.toUInt32 >>> ((8 : Int32) &&& 31).toUInt32).toInt32), iv (19 : Int32)] [(.int (4 : Int32)), (.int ((x.toUInt32 >>> ((8 : Int32) &&& 31).toUInt32).toInt32))]) (fun t' k => XS.iconst X0.here hx rfl (hb hby own_dn_58) k) ?_
          refine own_go (mkF m 60 #[iv ((x.toUInt32 >>> ((8 : Int32) &&& 31).toUInt32).toInt32), iv (19 : Int32)] [(.int ((((x.toUInt32 >>> ((8 : Int32) &&& 31).toUInt32).toInt32).toUInt32 >>> ((4 : Int32) &&& 31).toUInt32).toInt32))]) (fun t' k => XS.iushr X0.here hx rfl (hb hby own_dn_59) rfl k) ?_
          refine own_go (mkF m 61 #[iv ((((x.toUInt32 >>> ((8 : Int32) &&& 31).toUInt32).toInt32).toUInt32 >>> ((4 : Int32) &&& 31).toUInt32).toInt32), iv (19 : Int32)] []) (fun t' k => XS.istoreN X0.here hx rfl (hb hby own_dn_60) rfl (l' := #[iv ((((x.toUInt32 >>> ((8 : Int32) &&& 31).toUInt32).toInt32).toUInt32 >>> ((4 : Int32) &&& 31).toUInt32).toInt32), iv (19 : Int32)]) rfl k) ?_
          refine own_go (mkF m 62 #[iv ((((x.toUInt32 >>> ((8 : Int32) &&& 31).toUInt32).toInt32).toUInt32 >>> ((4 : Int32) &&& 31).toUInt32).toInt32), iv (19 : Int32)] [(.int ((((x.toUInt32 >>> ((8 : Int32) &&& 31).toUInt32).toInt32).toUInt32 >>> ((4 : Int32) &&& 31).toUInt32).toInt32))]) (fun t' k => XS.iloadN X0.here hx rfl (hb hby own_dn_61) rfl  k) ?_
          refine own_go (mkF m 63 #[iv ((((x.toUInt32 >>> ((8 : Int32) &&& 31).toUInt32).toInt32).toUInt32 >>> ((4 : Int32) &&& 31).toUInt32).toInt32), iv (19 : Int32)] [(.int (4 : Int32)), (.int ((((x.toUInt32 >>> ((8 : Int32) &&& 31).toUInt32).toInt32).toUInt32 >>> ((4 : Int32) &&& 31).toUInt32).toInt32))]) (fun t' k => XS.iconst X0.here hx rfl (hb hby own_dn_62) k) ?_
          by_cases hc63 : ((((x.toUInt32 >>> ((8 : Int32) &&& 31).toUInt32).toInt32).toUInt32 >>> ((4 : Int32) &&& 31).toUInt32).toInt32) < (4 : Int32)
          · skip
            refine own_go (mkF m 73 #[iv ((((x.toUInt32 >>> ((8 : Int32) &&& 31).toUInt32).toInt32).toUInt32 >>> ((4 : Int32) &&& 31).toUInt32).toInt32), iv (19 : Int32)] []) (fun t' k => XS.icmpYes X0.here hx rfl (pc0 := 63) (pc' := 73) rfl (hb hby own_dn_63) rfl (tlt hc63).1 (by decide) (by decide) k) ?_
            refine own_go (mkF m 74 #[iv ((((x.toUInt32 >>> ((8 : Int32) &&& 31).toUInt32).toInt32).toUInt32 >>> ((4 : Int32) &&& 31).toUInt32).toInt32), iv (19 : Int32)] [(.int (19 : Int32))]) (fun t' k => XS.iloadN X0.here hx rfl (hb hby own_dn_73) rfl  k) ?_
            refine own_go (mkF m 75 #[iv ((((x.toUInt32 >>> ((8 : Int32) &&& 31).toUInt32).toInt32).toUInt32 >>> ((4 : Int32) &&& 31).toUInt32).toInt32), iv (19 : Int32)] [(.int ((((x.toUInt32 >>> ((8 : Int32) &&& 31).toUInt32).toInt32).toUInt32 >>> ((4 : Int32) &&& 31).toUInt32).toInt32)), (.int (19 : Int32))]) (fun t' k => XS.iloadN X0.here hx rfl (hb hby own_dn_74) rfl  k) ?_
            refine own_go (mkF m 76 #[iv ((((x.toUInt32 >>> ((8 : Int32) &&& 31).toUInt32).toInt32).toUInt32 >>> ((4 : Int32) &&& 31).toUInt32).toInt32), iv (19 : Int32)] [(.int (1 : Int32)), (.int ((((x.toUInt32 >>> ((8 : Int32) &&& 31).toUInt32).toInt32).toUInt32 >>> ((4 : Int32) &&& 31).toUInt32).toInt32)), (.int (19 : Int32))]) (fun t' k => XS.iconst X0.here hx rfl (hb hby own_dn_75) k) ?_
            refine own_go (mkF m 77 #[iv ((((x.toUInt32 >>> ((8 : Int32) &&& 31).toUInt32).toInt32).toUInt32 >>> ((4 : Int32) &&& 31).toUInt32).toInt32), iv (19 : Int32)] [(.int ((((((x.toUInt32 >>> ((8 : Int32) &&& 31).toUInt32).toInt32).toUInt32 >>> ((4 : Int32) &&& 31).toUInt32).toInt32).toUInt32 >>> ((1 : Int32) &&& 31).toUInt32).toInt32)), (.int (19 : Int32))]) (fun t' k => XS.iushr X0.here hx rfl (hb hby own_dn_76) rfl k) ?_
            refine own_go (mkF m 78 #[iv ((((x.toUInt32 >>> ((8 : Int32) &&& 31).toUInt32).toInt32).toUInt32 >>> ((4 : Int32) &&& 31).toUInt32).toInt32), iv (19 : Int32)] [(.int ((19 : Int32) - ((((((x.toUInt32 >>> ((8 : Int32) &&& 31).toUInt32).toInt32).toUInt32 >>> ((4 : Int32) &&& 31).toUInt32).toInt32).toUInt32 >>> ((1 : Int32) &&& 31).toUInt32).toInt32)))]) (fun t' k => XS.isub X0.here hx rfl (hb hby own_dn_77) rfl k) ?_
            refine own_retI X0 hx hlk hret (hb hby own_dn_78) ?_ (by decide) (by decide)
            exact ⟨congrArg (fun z => some (Value.int z)) ((show (own_nlz x) = ((19 : Int32) - ((((((x.toUInt32 >>> ((8 : Int32) &&& 31).toUInt32).toInt32).toUInt32 >>> ((4 : Int32) &&& 31).toUInt32).toInt32).toUInt32 >>> ((1 : Int32) &&& 31).toUInt32).toInt32)) from ((if_pos hc1).trans ((if_pos hc22).trans ((if_neg hc37).trans ((if_neg hc51).trans ((if_pos hc63).trans rfl)))))).trans (by rfl : ((19 : Int32) - ((((((x.toUInt32 >>> ((8 : Int32) &&& 31).toUInt32).toInt32).toUInt32 >>> ((4 : Int32) &&& 31).toUInt32).toInt32).toUInt32 >>> ((1 : Int32) &&& 31).toUInt32).toInt32)) = ((19 : Int32) - ((((((x.toUInt32 >>> ((8 : Int32) &&& 31).toUInt32).toInt32).toUInt32 >>> ((4 : Int32) &&& 31).toUInt32).toInt32).toUInt32 >>> ((1 : Int32) &&& 31).toUInt32).toInt32)))).symm, e0, rfl⟩
          · skip
            refine own_go (mkF m 66 #[iv ((((x.toUInt32 >>> ((8 : Int32) &&& 31).toUInt32).toInt32).toUInt32 >>> ((4 : Int32) &&& 31).toUInt32).toInt32), iv (19 : Int32)] []) (fun t' k => XS.icmpNo X0.here hx rfl (hb hby own_dn_63) rfl (flt hc63).1 k) ?_
            refine own_go (mkF m 69 #[iv ((((x.toUInt32 >>> ((8 : Int32) &&& 31).toUInt32).toInt32).toUInt32 >>> ((4 : Int32) &&& 31).toUInt32).toInt32), iv (17 : Int32)] []) (fun t' k => XS.iinc X0.here hx rfl (hb hby own_dn_66) rfl (l' := #[iv ((((x.toUInt32 >>> ((8 : Int32) &&& 31).toUInt32).toInt32).toUInt32 >>> ((4 : Int32) &&& 31).toUInt32).toInt32), iv (17 : Int32)]) rfl k) ?_
            refine own_go (mkF m 70 #[iv ((((x.toUInt32 >>> ((8 : Int32) &&& 31).toUInt32).toInt32).toUInt32 >>> ((4 : Int32) &&& 31).toUInt32).toInt32), iv (17 : Int32)] [(.int ((((x.toUInt32 >>> ((8 : Int32) &&& 31).toUInt32).toInt32).toUInt32 >>> ((4 : Int32) &&& 31).toUInt32).toInt32))]) (fun t' k => XS.iloadN X0.here hx rfl (hb hby own_dn_69) rfl  k) ?_
            refine own_go (mkF m 71 #[iv ((((x.toUInt32 >>> ((8 : Int32) &&& 31).toUInt32).toInt32).toUInt32 >>> ((4 : Int32) &&& 31).toUInt32).toInt32), iv (17 : Int32)] [(.int (2 : Int32)), (.int ((((x.toUInt32 >>> ((8 : Int32) &&& 31).toUInt32).toInt32).toUInt32 >>> ((4 : Int32) &&& 31).toUInt32).toInt32))]) (fun t' k => XS.iconst X0.here hx rfl (hb hby own_dn_70) k) ?_
            refine own_go (mkF m 72 #[iv ((((x.toUInt32 >>> ((8 : Int32) &&& 31).toUInt32).toInt32).toUInt32 >>> ((4 : Int32) &&& 31).toUInt32).toInt32), iv (17 : Int32)] [(.int ((((((x.toUInt32 >>> ((8 : Int32) &&& 31).toUInt32).toInt32).toUInt32 >>> ((4 : Int32) &&& 31).toUInt32).toInt32).toUInt32 >>> ((2 : Int32) &&& 31).toUInt32).toInt32))]) (fun t' k => XS.iushr X0.here hx rfl (hb hby own_dn_71) rfl k) ?_
            refine own_go (mkF m 73 #[iv ((((((x.toUInt32 >>> ((8 : Int32) &&& 31).toUInt32).toInt32).toUInt32 >>> ((4 : Int32) &&& 31).toUInt32).toInt32).toUInt32 >>> ((2 : Int32) &&& 31).toUInt32).toInt32), iv (17 : Int32)] []) (fun t' k => XS.istoreN X0.here hx rfl (hb hby own_dn_72) rfl (l' := #[iv ((((((x.toUInt32 >>> ((8 : Int32) &&& 31).toUInt32).toInt32).toUInt32 >>> ((4 : Int32) &&& 31).toUInt32).toInt32).toUInt32 >>> ((2 : Int32) &&& 31).toUInt32).toInt32), iv (17 : Int32)]) rfl k) ?_
            refine own_go (mkF m 74 #[iv ((((((x.toUInt32 >>> ((8 : Int32) &&& 31).toUInt32).toInt32).toUInt32 >>> ((4 : Int32) &&& 31).toUInt32).toInt32).toUInt32 >>> ((2 : Int32) &&& 31).toUInt32).toInt32), iv (17 : Int32)] [(.int (17 : Int32))]) (fun t' k => XS.iloadN X0.here hx rfl (hb hby own_dn_73) rfl  k) ?_
            refine own_go (mkF m 75 #[iv ((((((x.toUInt32 >>> ((8 : Int32) &&& 31).toUInt32).toInt32).toUInt32 >>> ((4 : Int32) &&& 31).toUInt32).toInt32).toUInt32 >>> ((2 : Int32) &&& 31).toUInt32).toInt32), iv (17 : Int32)] [(.int ((((((x.toUInt32 >>> ((8 : Int32) &&& 31).toUInt32).toInt32).toUInt32 >>> ((4 : Int32) &&& 31).toUInt32).toInt32).toUInt32 >>> ((2 : Int32) &&& 31).toUInt32).toInt32)), (.int (17 : Int32))]) (fun t' k => XS.iloadN X0.here hx rfl (hb hby own_dn_74) rfl  k) ?_
            refine own_go (mkF m 76 #[iv ((((((x.toUInt32 >>> ((8 : Int32) &&& 31).toUInt32).toInt32).toUInt32 >>> ((4 : Int32) &&& 31).toUInt32).toInt32).toUInt32 >>> ((2 : Int32) &&& 31).toUInt32).toInt32), iv (17 : Int32)] [(.int (1 : Int32)), (.int ((((((x.toUInt32 >>> ((8 : Int32) &&& 31).toUInt32).toInt32).toUInt32 >>> ((4 : Int32) &&& 31).toUInt32).toInt32).toUInt32 >>> ((2 : Int32) &&& 31).toUInt32).toInt32)), (.int (17 : Int32))]) (fun t' k => XS.iconst X0.here hx rfl (hb hby own_dn_75) k) ?_
            refine own_go (mkF m 77 #[iv ((((((x.toUInt32 >>> ((8 : Int32) &&& 31).toUInt32).toInt32).toUInt32 >>> ((4 : Int32) &&& 31).toUInt32).toInt32).toUInt32 >>> ((2 : Int32) &&& 31).toUInt32).toInt32), iv (17 : Int32)] [(.int ((((((((x.toUInt32 >>> ((8 : Int32) &&& 31).toUInt32).toInt32).toUInt32 >>> ((4 : Int32) &&& 31).toUInt32).toInt32).toUInt32 >>> ((2 : Int32) &&& 31).toUInt32).toInt32).toUInt32 >>> ((1 : Int32) &&& 31).toUInt32).toInt32)), (.int (17 : Int32))]) (fun t' k => XS.iushr X0.here hx rfl (hb hby own_dn_76) rfl k) ?_
            refine own_go (mkF m 78 #[iv ((((((x.toUInt32 >>> ((8 : Int32) &&& 31).toUInt32).toInt32).toUInt32 >>> ((4 : Int32) &&& 31).toUInt32).toInt32).toUInt32 >>> ((2 : Int32) &&& 31).toUInt32).toInt32), iv (17 : Int32)] [(.int ((17 : Int32) - ((((((((x.toUInt32 >>> ((8 : Int32) &&& 31).toUInt32).toInt32).toUInt32 >>> ((4 : Int32) &&& 31).toUInt32).toInt32).toUInt32 >>> ((2 : Int32) &&& 31).toUInt32).toInt32).toUInt32 >>> ((1 : Int32) &&& 31).toUInt32).toInt32)))]) (fun t' k => XS.isub X0.here hx rfl (hb hby own_dn_77) rfl k) ?_
            refine own_retI X0 hx hlk hret (hb hby own_dn_78) ?_ (by decide) (by decide)
            exact ⟨congrArg (fun z => some (Value.int z)) ((show (own_nlz x) = ((17 : Int32) - ((((((((x.toUInt32 >>> ((8 : Int32) &&& 31).toUInt32).toInt32).toUInt32 >>> ((4 : Int32) &&& 31).toUInt32).toInt32).toUInt32 >>> ((2 : Int32) &&& 31).toUInt32).toInt32).toUInt32 >>> ((1 : Int32) &&& 31).toUInt32).toInt32)) from ((if_pos hc1).trans ((if_pos hc22).trans ((if_neg hc37).trans ((if_neg hc51).trans ((if_neg hc63).trans rfl)))))).trans (by rfl : ((17 : Int32) - ((((((((x.toUInt32 >>> ((8 : Int32) &&& 31).toUInt32).toInt32).toUInt32 >>> ((4 : Int32) &&& 31).toUInt32).toInt32).toUInt32 >>> ((2 : Int32) &&& 31).toUInt32).toInt32).toUInt32 >>> ((1 : Int32) &&& 31).toUInt32).toInt32)) = ((17 : Int32) - ((((((((x.toUInt32 >>> ((8 : Int32) &&& 31).toUInt32).toInt32).toUInt32 >>> ((4 : Int32) &&& 31).toUInt32).toInt32).toUInt32 >>> ((2 : Int32) &&& 31).toUInt32).toInt32).toUInt32 >>> ((1 : Int32) &&& 31).toUInt32).toInt32)))).symm, e0, rfl⟩
    · skip
      refine own_go (mkF m 25 #[iv x, iv (31 : Int32)] []) (fun t' k => XS.icmpNo X0.here hx rfl (hb hby own_dn_22) rfl (flt hc22).1 k) ?_
      refine own_go (mkF m 28 #[iv x, iv (15 : Int32)] []) (fun t' k => XS.iinc X0.here hx rfl (hb hby own_dn_25) rfl (l' := #[iv x, iv (15 : Int32)]) rfl k) ?_
      refine own_go (mkF m 29 #[iv x, iv (15 : Int32)] [(.int x)]) (fun t' k => XS.iloadN X0.here hx rfl (hb hby own_dn_28) rfl  k) ?_
      refine own_go (mkF m 31 #[iv x, iv (15 : Int32)] [(.int (16 : Int32)), (.int x)]) (fun t' k => XS.bipush X0.here hx rfl (hb hby own_dn_29) k) ?_
      refine own_go (mkF m 32 #[iv x, iv (15 : Int32)] [(.int ((x.toUInt32 >>> ((16 : Int32) &&& 31).toUInt32).toInt32))]) (fun t' k => XS.iushr X0.here hx rfl (hb hby own_dn_31) rfl k) ?_
      refine own_go (mkF m 33 #[iv ((x.toUInt32 >>> ((16 : Int32) &&& 31).toUInt32).toInt32), iv (15 : Int32)] []) (fun t' k => XS.istoreN X0.here hx rfl (hb hby own_dn_32) rfl (l' := #[iv ((x.toUInt32 >>> ((16 : Int32) &&& 31).toUInt32).toInt32), iv (15 : Int32)]) rfl k) ?_
      refine own_go (mkF m 34 #[iv ((x.toUInt32 >>> ((16 : Int32) &&& 31).toUInt32).toInt32), iv (15 : Int32)] [(.int ((x.toUInt32 >>> ((16 : Int32) &&& 31).toUInt32).toInt32))]) (fun t' k => XS.iloadN X0.here hx rfl (hb hby own_dn_33) rfl  k) ?_
      refine own_go (mkF m 37 #[iv ((x.toUInt32 >>> ((16 : Int32) &&& 31).toUInt32).toInt32), iv (15 : Int32)] [(.int (256 : Int32)), (.int ((x.toUInt32 >>> ((16 : Int32) &&& 31).toUInt32).toInt32))]) (fun t' k => XS.sipush X0.here hx rfl (hb hby own_dn_34) k) ?_
      by_cases hc37 : ((x.toUInt32 >>> ((16 : Int32) &&& 31).toUInt32).toInt32) < (256 : Int32)
      · skip
        refine own_go (mkF m 48 #[iv ((x.toUInt32 >>> ((16 : Int32) &&& 31).toUInt32).toInt32), iv (15 : Int32)] []) (fun t' k => XS.icmpYes X0.here hx rfl (pc0 := 37) (pc' := 48) rfl (hb hby own_dn_37) rfl (tlt hc37).1 (by decide) (by decide) k) ?_
        refine own_go (mkF m 49 #[iv ((x.toUInt32 >>> ((16 : Int32) &&& 31).toUInt32).toInt32), iv (15 : Int32)] [(.int ((x.toUInt32 >>> ((16 : Int32) &&& 31).toUInt32).toInt32))]) (fun t' k => XS.iloadN X0.here hx rfl (hb hby own_dn_48) rfl  k) ?_
        refine own_go (mkF m 51 #[iv ((x.toUInt32 >>> ((16 : Int32) &&& 31).toUInt32).toInt32), iv (15 : Int32)] [(.int (16 : Int32)), (.int ((x.toUInt32 >>> ((16 : Int32) &&& 31).toUInt32).toInt32))]) (fun t' k => XS.bipush X0.here hx rfl (hb hby own_dn_49) k) ?_
        by_cases hc51 : ((x.toUInt32 >>> ((16 : Int32) &&& 31).toUInt32).toInt32) < (16 : Int32)
        · skip
          refine own_go (mkF m 61 #[iv ((x.toUInt32 >>> ((16 : Int32) &&& 31).toUInt32).toInt32), iv (15 : Int32)] []) (fun t' k => XS.icmpYes X0.here hx rfl (pc0 := 51) (pc' := 61) rfl (hb hby own_dn_51) rfl (tlt hc51).1 (by decide) (by decide) k) ?_
          refine own_go (mkF m 62 #[iv ((x.toUInt32 >>> ((16 : Int32) &&& 31).toUInt32).toInt32), iv (15 : Int32)] [(.int ((x.toUInt32 >>> ((16 : Int32) &&& 31).toUInt32).toInt32))]) (fun t' k => XS.iloadN X0.here hx rfl (hb hby own_dn_61) rfl  k) ?_
          refine own_go (mkF m 63 #[iv ((x.toUInt32 >>> ((16 : Int32) &&& 31).toUInt32).toInt32), iv (15 : Int32)] [(.int (4 : Int32)), (.int ((x.toUInt32 >>> ((16 : Int32) &&& 31).toUInt32).toInt32))]) (fun t' k => XS.iconst X0.here hx rfl (hb hby own_dn_62) k) ?_
          by_cases hc63 : ((x.toUInt32 >>> ((16 : Int32) &&& 31).toUInt32).toInt32) < (4 : Int32)
          · skip
            refine own_go (mkF m 73 #[iv ((x.toUInt32 >>> ((16 : Int32) &&& 31).toUInt32).toInt32), iv (15 : Int32)] []) (fun t' k => XS.icmpYes X0.here hx rfl (pc0 := 63) (pc' := 73) rfl (hb hby own_dn_63) rfl (tlt hc63).1 (by decide) (by decide) k) ?_
            refine own_go (mkF m 74 #[iv ((x.toUInt32 >>> ((16 : Int32) &&& 31).toUInt32).toInt32), iv (15 : Int32)] [(.int (15 : Int32))]) (fun t' k => XS.iloadN X0.here hx rfl (hb hby own_dn_73) rfl  k) ?_
            refine own_go (mkF m 75 #[iv ((x.toUInt32 >>> ((16 : Int32) &&& 31).toUInt32).toInt32), iv (15 : Int32)] [(.int ((x.toUInt32 >>> ((16 : Int32) &&& 31).toUInt32).toInt32)), (.int (15 : Int32))]) (fun t' k => XS.iloadN X0.here hx rfl (hb hby own_dn_74) rfl  k) ?_
            refine own_go (mkF m 76 #[iv ((x.toUInt32 >>> ((16 : Int32) &&& 31).toUInt32).toInt32), iv (15 : Int32)] [(.int (1 : Int32)), (.int ((x.toUInt32 >>> ((16 : Int32) &&& 31).toUInt32).toInt32)), (.int (15 : Int32))]) (fun t' k => XS.iconst X0.here hx rfl (hb hby own_dn_75) k) ?_
            refine own_go (mkF m 77 #[iv ((x.toUInt32 >>> ((16 : Int32) &&& 31).toUInt32).toInt32), iv (15 : Int32)] [(.int ((((x.toUInt32 >>> ((16 : Int32) &&& 31).toUInt32).toInt32).toUInt32 >>> ((1 : Int32) &&& 31).toUInt32).toInt32)), (.int (15 : Int32))]) (fun t' k => XS.iushr X0.here hx rfl (hb hby own_dn_76) rfl k) ?_
            refine own_go (mkF m 78 #[iv ((x.toUInt32 >>> ((16 : Int32) &&& 31).toUInt32).toInt32), iv (15 : Int32)] [(.int ((15 : Int32) - ((((x.toUInt32 >>> ((16 : Int32) &&& 31).toUInt32).toInt32).toUInt32 >>> ((1 : Int32) &&& 31).toUInt32).toInt32)))]) (fun t' k => XS.isub X0.here hx rfl (hb hby own_dn_77) rfl k) ?_
            refine own_retI X0 hx hlk hret (hb hby own_dn_78) ?_ (by decide) (by decide)
            exact ⟨congrArg (fun z => some (Value.int z)) ((show (own_nlz x) = ((15 : Int32) - ((((x.toUInt32 >>> ((16 : Int32) &&& 31).toUInt32).toInt32).toUInt32 >>> ((1 : Int32) &&& 31).toUInt32).toInt32)) from ((if_pos hc1).trans ((if_neg hc22).trans ((if_pos hc37).trans ((if_pos hc51).trans ((if_pos hc63).trans rfl)))))).trans (by rfl : ((15 : Int32) - ((((x.toUInt32 >>> ((16 : Int32) &&& 31).toUInt32).toInt32).toUInt32 >>> ((1 : Int32) &&& 31).toUInt32).toInt32)) = ((15 : Int32) - ((((x.toUInt32 >>> ((16 : Int32) &&& 31).toUInt32).toInt32).toUInt32 >>> ((1 : Int32) &&& 31).toUInt32).toInt32)))).symm, e0, rfl⟩
          · skip
            refine own_go (mkF m 66 #[iv ((x.toUInt32 >>> ((16 : Int32) &&& 31).toUInt32).toInt32), iv (15 : Int32)] []) (fun t' k => XS.icmpNo X0.here hx rfl (hb hby own_dn_63) rfl (flt hc63).1 k) ?_
            refine own_go (mkF m 69 #[iv ((x.toUInt32 >>> ((16 : Int32) &&& 31).toUInt32).toInt32), iv (13 : Int32)] []) (fun t' k => XS.iinc X0.here hx rfl (hb hby own_dn_66) rfl (l' := #[iv ((x.toUInt32 >>> ((16 : Int32) &&& 31).toUInt32).toInt32), iv (13 : Int32)]) rfl k) ?_
            refine own_go (mkF m 70 #[iv ((x.toUInt32 >>> ((16 : Int32) &&& 31).toUInt32).toInt32), iv (13 : Int32)] [(.int ((x.toUInt32 >>> ((16 : Int32) &&& 31).toUInt32).toInt32))]) (fun t' k => XS.iloadN X0.here hx rfl (hb hby own_dn_69) rfl  k) ?_
            refine own_go (mkF m 71 #[iv ((x.toUInt32 >>> ((16 : Int32) &&& 31).toUInt32).toInt32), iv (13 : Int32)] [(.int (2 : Int32)), (.int ((x.toUInt32 >>> ((16 : Int32) &&& 31).toUInt32).toInt32))]) (fun t' k => XS.iconst X0.here hx rfl (hb hby own_dn_70) k) ?_
            refine own_go (mkF m 72 #[iv ((x.toUInt32 >>> ((16 : Int32) &&& 31).toUInt32).toInt32), iv (13 : Int32)] [(.int ((((x.toUInt32 >>> ((16 : Int32) &&& 31).toUInt32).toInt32).toUInt32 >>> ((2 : Int32) &&& 31).toUInt32).toInt32))]) (fun t' k => XS.iushr X0.here hx rfl (hb hby own_dn_71) rfl k) ?_
            refine own_go (mkF m 73 #[iv ((((x.toUInt32 >>> ((16 : Int32) &&& 31).toUInt32).toInt32).toUInt32 >>> ((2 : Int32) &&& 31).toUInt32).toInt32), iv (13 : Int32)] []) (fun t' k => XS.istoreN X0.here hx rfl (hb hby own_dn_72) rfl (l' := #[iv ((((x.toUInt32 >>> ((16 : Int32) &&& 31).toUInt32).toInt32).toUInt32 >>> ((2 : Int32) &&& 31).toUInt32).toInt32), iv (13 : Int32)]) rfl k) ?_
            refine own_go (mkF m 74 #[iv ((((x.toUInt32 >>> ((16 : Int32) &&& 31).toUInt32).toInt32).toUInt32 >>> ((2 : Int32) &&& 31).toUInt32).toInt32), iv (13 : Int32)] [(.int (13 : Int32))]) (fun t' k => XS.iloadN X0.here hx rfl (hb hby own_dn_73) rfl  k) ?_
            refine own_go (mkF m 75 #[iv ((((x.toUInt32 >>> ((16 : Int32) &&& 31).toUInt32).toInt32).toUInt32 >>> ((2 : Int32) &&& 31).toUInt32).toInt32), iv (13 : Int32)] [(.int ((((x.toUInt32 >>> ((16 : Int32) &&& 31).toUInt32).toInt32).toUInt32 >>> ((2 : Int32) &&& 31).toUInt32).toInt32)), (.int (13 : Int32))]) (fun t' k => XS.iloadN X0.here hx rfl (hb hby own_dn_74) rfl  k) ?_
            refine own_go (mkF m 76 #[iv ((((x.toUInt32 >>> ((16 : Int32) &&& 31).toUInt32).toInt32).toUInt32 >>> ((2 : Int32) &&& 31).toUInt32).toInt32), iv (13 : Int32)] [(.int (1 : Int32)), (.int ((((x.toUInt32 >>> ((16 : Int32) &&& 31).toUInt32).toInt32).toUInt32 >>> ((2 : Int32) &&& 31).toUInt32).toInt32)), (.int (13 : Int32))]) (fun t' k => XS.iconst X0.here hx rfl (hb hby own_dn_75) k) ?_
            refine own_go (mkF m 77 #[iv ((((x.toUInt32 >>> ((16 : Int32) &&& 31).toUInt32).toInt32).toUInt32 >>> ((2 : Int32) &&& 31).toUInt32).toInt32), iv (13 : Int32)] [(.int ((((((x.toUInt32 >>> ((16 : Int32) &&& 31).toUInt32).toInt32).toUInt32 >>> ((2 : Int32) &&& 31).toUInt32).toInt32).toUInt32 >>> ((1 : Int32) &&& 31).toUInt32).toInt32)), (.int (13 : Int32))]) (fun t' k => XS.iushr X0.here hx rfl (hb hby own_dn_76) rfl k) ?_
            refine own_go (mkF m 78 #[iv ((((x.toUInt32 >>> ((16 : Int32) &&& 31).toUInt32).toInt32).toUInt32 >>> ((2 : Int32) &&& 31).toUInt32).toInt32), iv (13 : Int32)] [(.int ((13 : Int32) - ((((((x.toUInt32 >>> ((16 : Int32) &&& 31).toUInt32).toInt32).toUInt32 >>> ((2 : Int32) &&& 31).toUInt32).toInt32).toUInt32 >>> ((1 : Int32) &&& 31).toUInt32).toInt32)))]) (fun t' k => XS.isub X0.here hx rfl (hb hby own_dn_77) rfl k) ?_
            refine own_retI X0 hx hlk hret (hb hby own_dn_78) ?_ (by decide) (by decide)
            exact ⟨congrArg (fun z => some (Value.int z)) ((show (own_nlz x) = ((13 : Int32) - ((((((x.toUInt32 >>> ((16 : Int32) &&& 31).toUInt32).toInt32).toUInt32 >>> ((2 : Int32) &&& 31).toUInt32).toInt32).toUInt32 >>> ((1 : Int32) &&& 31).toUInt32).toInt32)) from ((if_pos hc1).trans ((if_neg hc22).trans ((if_pos hc37).trans ((if_pos hc51).trans ((if_neg hc63).trans rfl)))))).trans (by rfl : ((13 : Int32) - ((((((x.toUInt32 >>> ((16 : Int32) &&& 31).toUInt32).toInt32).toUInt32 >>> ((2 : Int32) &&& 31).toUInt32).toInt32).toUInt32 >>> ((1 : Int32) &&& 31).toUInt32).toInt32)) = ((13 : Int32) - ((((((x.toUInt32 >>> ((16 : Int32) &&& 31).toUInt32).toInt32).toUInt32 >>> ((2 : Int32) &&& 31).toUInt32).toInt32).toUInt32 >>> ((1 : Int32) &&& 31).toUInt32).toInt32)))).symm, e0, rfl⟩
        · skip
          refine own_go (mkF m 54 #[iv ((x.toUInt32 >>> ((16 : Int32) &&& 31).toUInt32).toInt32), iv (15 : Int32)] []) (fun t' k => XS.icmpNo X0.here hx rfl (hb hby own_dn_51) rfl (flt hc51).1 k) ?_
          refine own_go (mkF m 57 #[iv ((x.toUInt32 >>> ((16 : Int32) &&& 31).toUInt32).toInt32), iv (11 : Int32)] []) (fun t' k => XS.iinc X0.here hx rfl (hb hby own_dn_54) rfl (l' := #[iv ((x.toUInt32 >>> ((16 : Int32) &&& 31).toUInt32).toInt32), iv (11 : Int32)]) rfl k) ?_
          refine own_go (mkF m 58 #[iv ((x.toUInt32 >>> ((16 : Int32) &&& 31).toUInt32).toInt32), iv (11 : Int32)] [(.int ((x.toUInt32 >>> ((16 : Int32) &&& 31).toUInt32).toInt32))]) (fun t' k => XS.iloadN X0.here hx rfl (hb hby own_dn_57) rfl  k) ?_
          refine own_go (mkF m 59 #[iv ((x.toUInt32 >>> ((16 : Int32) &&& 31).toUInt32).toInt32), iv (11 : Int32)] [(.int (4 : Int32)), (.int ((x.toUInt32 >>> ((16 : Int32) &&& 31).toUInt32).toInt32))]) (fun t' k => XS.iconst X0.here hx rfl (hb hby own_dn_58) k) ?_
          refine own_go (mkF m 60 #[iv ((x.toUInt32 >>> ((16 : Int32) &&& 31).toUInt32).toInt32), iv (11 : Int32)] [(.int ((((x.toUInt32 >>> ((16 : Int32) &&& 31).toUInt32).toInt32).toUInt32 >>> ((4 : Int32) &&& 31).toUInt32).toInt32))]) (fun t' k => XS.iushr X0.here hx rfl (hb hby own_dn_59) rfl k) ?_
          refine own_go (mkF m 61 #[iv ((((x.toUInt32 >>> ((16 : Int32) &&& 31).toUInt32).toInt32).toUInt32 >>> ((4 : Int32) &&& 31).toUInt32).toInt32), iv (11 : Int32)] []) (fun t' k => XS.istoreN X0.here hx rfl (hb hby own_dn_60) rfl (l' := #[iv ((((x.toUInt32 >>> ((16 : Int32) &&& 31).toUInt32).toInt32).toUInt32 >>> ((4 : Int32) &&& 31).toUInt32).toInt32), iv (11 : Int32)]) rfl k) ?_
          refine own_go (mkF m 62 #[iv ((((x.toUInt32 >>> ((16 : Int32) &&& 31).toUInt32).toInt32).toUInt32 >>> ((4 : Int32) &&& 31).toUInt32).toInt32), iv (11 : Int32)] [(.int ((((x.toUInt32 >>> ((16 : Int32) &&& 31).toUInt32).toInt32).toUInt32 >>> ((4 : Int32) &&& 31).toUInt32).toInt32))]) (fun t' k => XS.iloadN X0.here hx rfl (hb hby own_dn_61) rfl  k) ?_
          refine own_go (mkF m 63 #[iv ((((x.toUInt32 >>> ((16 : Int32) &&& 31).toUInt32).toInt32).toUInt32 >>> ((4 : Int32) &&& 31).toUInt32).toInt32), iv (11 : Int32)] [(.int (4 : Int32)), (.int ((((x.toUInt32 >>> ((16 : Int32) &&& 31).toUInt32).toInt32).toUInt32 >>> ((4 : Int32) &&& 31).toUInt32).toInt32))]) (fun t' k => XS.iconst X0.here hx rfl (hb hby own_dn_62) k) ?_
          by_cases hc63 : ((((x.toUInt32 >>> ((16 : Int32) &&& 31).toUInt32).toInt32).toUInt32 >>> ((4 : Int32) &&& 31).toUInt32).toInt32) < (4 : Int32)
          · skip
            refine own_go (mkF m 73 #[iv ((((x.toUInt32 >>> ((16 : Int32) &&& 31).toUInt32).toInt32).toUInt32 >>> ((4 : Int32) &&& 31).toUInt32).toInt32), iv (11 : Int32)] []) (fun t' k => XS.icmpYes X0.here hx rfl (pc0 := 63) (pc' := 73) rfl (hb hby own_dn_63) rfl (tlt hc63).1 (by decide) (by decide) k) ?_
            refine own_go (mkF m 74 #[iv ((((x.toUInt32 >>> ((16 : Int32) &&& 31).toUInt32).toInt32).toUInt32 >>> ((4 : Int32) &&& 31).toUInt32).toInt32), iv (11 : Int32)] [(.int (11 : Int32))]) (fun t' k => XS.iloadN X0.here hx rfl (hb hby own_dn_73) rfl  k) ?_
            refine own_go (mkF m 75 #[iv ((((x.toUInt32 >>> ((16 : Int32) &&& 31).toUInt32).toInt32).toUInt32 >>> ((4 : Int32) &&& 31).toUInt32).toInt32), iv (11 : Int32)] [(.int ((((x.toUInt32 >>> ((16 : Int32) &&& 31).toUInt32).toInt32).toUInt32 >>> ((4 : Int32) &&& 31).toUInt32).toInt32)), (.int (11 : Int32))]) (fun t' k => XS.iloadN X0.here hx rfl (hb hby own_dn_74) rfl  k) ?_
            refine own_go (mkF m 76 #[iv ((((x.toUInt32 >>> ((16 : Int32) &&& 31).toUInt32).toInt32).toUInt32 >>> ((4 : Int32) &&& 31).toUInt32).toInt32), iv (11 : Int32)] [(.int (1 : Int32)), (.int ((((x.toUInt32 >>> ((16 : Int32) &&& 31).toUInt32).toInt32).toUInt32 >>> ((4 : Int32) &&& 31).toUInt32).toInt32)), (.int (11 : Int32))]) (fun t' k => XS.iconst X0.here hx rfl (hb hby own_dn_75) k) ?_
            refine own_go (mkF m 77 #[iv ((((x.toUInt32 >>> ((16 : Int32) &&& 31).toUInt32).toInt32).toUInt32 >>> ((4 : Int32) &&& 31).toUInt32).toInt32), iv (11 : Int32)] [(.int ((((((x.toUInt32 >>> ((16 : Int32) &&& 31).toUInt32).toInt32).toUInt32 >>> ((4 : Int32) &&& 31).toUInt32).toInt32).toUInt32 >>> ((1 : Int32) &&& 31).toUInt32).toInt32)), (.int (11 : Int32))]) (fun t' k => XS.iushr X0.here hx rfl (hb hby own_dn_76) rfl k) ?_
            refine own_go (mkF m 78 #[iv ((((x.toUInt32 >>> ((16 : Int32) &&& 31).toUInt32).toInt32).toUInt32 >>> ((4 : Int32) &&& 31).toUInt32).toInt32), iv (11 : Int32)] [(.int ((11 : Int32) - ((((((x.toUInt32 >>> ((16 : Int32) &&& 31).toUInt32).toInt32).toUInt32 >>> ((4 : Int32) &&& 31).toUInt32).toInt32).toUInt32 >>> ((1 : Int32) &&& 31).toUInt32).toInt32)))]) (fun t' k => XS.isub X0.here hx rfl (hb hby own_dn_77) rfl k) ?_
            refine own_retI X0 hx hlk hret (hb hby own_dn_78) ?_ (by decide) (by decide)
            exact ⟨congrArg (fun z => some (Value.int z)) ((show (own_nlz x) = ((11 : Int32) - ((((((x.toUInt32 >>> ((16 : Int32) &&& 31).toUInt32).toInt32).toUInt32 >>> ((4 : Int32) &&& 31).toUInt32).toInt32).toUInt32 >>> ((1 : Int32) &&& 31).toUInt32).toInt32)) from ((if_pos hc1).trans ((if_neg hc22).trans ((if_pos hc37).trans ((if_neg hc51).trans ((if_pos hc63).trans rfl)))))).trans (by rfl : ((11 : Int32) - ((((((x.toUInt32 >>> ((16 : Int32) &&& 31).toUInt32).toInt32).toUInt32 >>> ((4 : Int32) &&& 31).toUInt32).toInt32).toUInt32 >>> ((1 : Int32) &&& 31).toUInt32).toInt32)) = ((11 : Int32) - ((((((x.toUInt32 >>> ((16 : Int32) &&& 31).toUInt32).toInt32).toUInt32 >>> ((4 : Int32) &&& 31).toUInt32).toInt32).toUInt32 >>> ((1 : Int32) &&& 31).toUInt32).toInt32)))).symm, e0, rfl⟩
          · skip
            refine own_go (mkF m 66 #[iv ((((x.toUInt32 >>> ((16 : Int32) &&& 31).toUInt32).toInt32).toUInt32 >>> ((4 : Int32) &&& 31).toUInt32).toInt32), iv (11 : Int32)] []) (fun t' k => XS.icmpNo X0.here hx rfl (hb hby own_dn_63) rfl (flt hc63).1 k) ?_
            refine own_go (mkF m 69 #[iv ((((x.toUInt32 >>> ((16 : Int32) &&& 31).toUInt32).toInt32).toUInt32 >>> ((4 : Int32) &&& 31).toUInt32).toInt32), iv (9 : Int32)] []) (fun t' k => XS.iinc X0.here hx rfl (hb hby own_dn_66) rfl (l' := #[iv ((((x.toUInt32 >>> ((16 : Int32) &&& 31).toUInt32).toInt32).toUInt32 >>> ((4 : Int32) &&& 31).toUInt32).toInt32), iv (9 : Int32)]) rfl k) ?_
            refine own_go (mkF m 70 #[iv ((((x.toUInt32 >>> ((16 : Int32) &&& 31).toUInt32).toInt32).toUInt32 >>> ((4 : Int32) &&& 31).toUInt32).toInt32), iv (9 : Int32)] [(.int ((((x.toUInt32 >>> ((16 : Int32) &&& 31).toUInt32).toInt32).toUInt32 >>> ((4 : Int32) &&& 31).toUInt32).toInt32))]) (fun t' k => XS.iloadN X0.here hx rfl (hb hby own_dn_69) rfl  k) ?_
            refine own_go (mkF m 71 #[iv ((((x.toUInt32 >>> ((16 : Int32) &&& 31).toUInt32).toInt32).toUInt32 >>> ((4 : Int32) &&& 31).toUInt32).toInt32), iv (9 : Int32)] [(.int (2 : Int32)), (.int ((((x.toUInt32 >>> ((16 : Int32) &&& 31).toUInt32).toInt32).toUInt32 >>> ((4 : Int32) &&& 31).toUInt32).toInt32))]) (fun t' k => XS.iconst X0.here hx rfl (hb hby own_dn_70) k) ?_
            refine own_go (mkF m 72 #[iv ((((x.toUInt32 >>> ((16 : Int32) &&& 31).toUInt32).toInt32).toUInt32 >>> ((4 : Int32) &&& 31).toUInt32).toInt32), iv (9 : Int32)] [(.int ((((((x.toUInt32 >>> ((16 : Int32) &&& 31).toUInt32).toInt32).toUInt32 >>> ((4 : Int32) &&& 31).toUInt32).toInt32).toUInt32 >>> ((2 : Int32) &&& 31).toUInt32).toInt32))]) (fun t' k => XS.iushr X0.here hx rfl (hb hby own_dn_71) rfl k) ?_
            refine own_go (mkF m 73 #[iv ((((((x.toUInt32 >>> ((16 : Int32) &&& 31).toUInt32).toInt32).toUInt32 >>> ((4 : Int32) &&& 31).toUInt32).toInt32).toUInt32 >>> ((2 : Int32) &&& 31).toUInt32).toInt32), iv (9 : Int32)] []) (fun t' k => XS.istoreN X0.here hx rfl (hb hby own_dn_72) rfl (l' := #[iv ((((((x.toUInt32 >>> ((16 : Int32) &&& 31).toUInt32).toInt32).toUInt32 >>> ((4 : Int32) &&& 31).toUInt32).toInt32).toUInt32 >>> ((2 : Int32) &&& 31).toUInt32).toInt32), iv (9 : Int32)]) rfl k) ?_
            refine own_go (mkF m 74 #[iv ((((((x.toUInt32 >>> ((16 : Int32) &&& 31).toUInt32).toInt32).toUInt32 >>> ((4 : Int32) &&& 31).toUInt32).toInt32).toUInt32 >>> ((2 : Int32) &&& 31).toUInt32).toInt32), iv (9 : Int32)] [(.int (9 : Int32))]) (fun t' k => XS.iloadN X0.here hx rfl (hb hby own_dn_73) rfl  k) ?_
            refine own_go (mkF m 75 #[iv ((((((x.toUInt32 >>> ((16 : Int32) &&& 31).toUInt32).toInt32).toUInt32 >>> ((4 : Int32) &&& 31).toUInt32).toInt32).toUInt32 >>> ((2 : Int32) &&& 31).toUInt32).toInt32), iv (9 : Int32)] [(.int ((((((x.toUInt32 >>> ((16 : Int32) &&& 31).toUInt32).toInt32).toUInt32 >>> ((4 : Int32) &&& 31).toUInt32).toInt32).toUInt32 >>> ((2 : Int32) &&& 31).toUInt32).toInt32)), (.int (9 : Int32))]) (fun t' k => XS.iloadN X0.here hx rfl (hb hby own_dn_74) rfl  k) ?_
            refine own_go (mkF m 76 #[iv ((((((x.toUInt32 >>> ((16 : Int32) &&& 31).toUInt32).toInt32).toUInt32 >>> ((4 : Int32) &&& 31).toUInt32).toInt32).toUInt32 >>> ((2 : Int32) &&& 31).toUInt32).toInt32), iv (9 : Int32)] [(.int (1 : Int32)), (.int ((((((x.toUInt32 >>> ((16 : Int32) &&& 31).toUInt32).toInt32).toUInt32 >>> ((4 : Int32) &&& 31).toUInt32).toInt32).toUInt32 >>> ((2 : Int32) &&& 31).toUInt32).toInt32)), (.int (9 : Int32))]) (fun t' k => XS.iconst X0.here hx rfl (hb hby own_dn_75) k) ?_
            refine own_go (mkF m 77 #[iv ((((((x.toUInt32 >>> ((16 : Int32) &&& 31).toUInt32).toInt32).toUInt32 >>> ((4 : Int32) &&& 31).toUInt32).toInt32).toUInt32 >>> ((2 : Int32) &&& 31).toUInt32).toInt32), iv (9 : Int32)] [(.int ((((((((x.toUInt32 >>> ((16 : Int32) &&& 31).toUInt32).toInt32).toUInt32 >>> ((4 : Int32) &&& 31).toUInt32).toInt32).toUInt32 >>> ((2 : Int32) &&& 31).toUInt32).toInt32).toUInt32 >>> ((1 : Int32) &&& 31).toUInt32).toInt32)), (.int (9 : Int32))]) (fun t' k => XS.iushr X0.here hx rfl (hb hby own_dn_76) rfl k) ?_
            refine own_go (mkF m 78 #[iv ((((((x.toUInt32 >>> ((16 : Int32) &&& 31).toUInt32).toInt32).toUInt32 >>> ((4 : Int32) &&& 31).toUInt32).toInt32).toUInt32 >>> ((2 : Int32) &&& 31).toUInt32).toInt32), iv (9 : Int32)] [(.int ((9 : Int32) - ((((((((x.toUInt32 >>> ((16 : Int32) &&& 31).toUInt32).toInt32).toUInt32 >>> ((4 : Int32) &&& 31).toUInt32).toInt32).toUInt32 >>> ((2 : Int32) &&& 31).toUInt32).toInt32).toUInt32 >>> ((1 : Int32) &&& 31).toUInt32).toInt32)))]) (fun t' k => XS.isub X0.here hx rfl (hb hby own_dn_77) rfl k) ?_
            refine own_retI X0 hx hlk hret (hb hby own_dn_78) ?_ (by decide) (by decide)
            exact ⟨congrArg (fun z => some (Value.int z)) ((show (own_nlz x) = ((9 : Int32) - ((((((((x.toUInt32 >>> ((16 : Int32) &&& 31).toUInt32).toInt32).toUInt32 >>> ((4 : Int32) &&& 31).toUInt32).toInt32).toUInt32 >>> ((2 : Int32) &&& 31).toUInt32).toInt32).toUInt32 >>> ((1 : Int32) &&& 31).toUInt32).toInt32)) from ((if_pos hc1).trans ((if_neg hc22).trans ((if_pos hc37).trans ((if_neg hc51).trans ((if_neg hc63).trans rfl)))))).trans (by rfl : ((9 : Int32) - ((((((((x.toUInt32 >>> ((16 : Int32) &&& 31).toUInt32).toInt32).toUInt32 >>> ((4 : Int32) &&& 31).toUInt32).toInt32).toUInt32 >>> ((2 : Int32) &&& 31).toUInt32).toInt32).toUInt32 >>> ((1 : Int32) &&& 31).toUInt32).toInt32)) = ((9 : Int32) - ((((((((x.toUInt32 >>> ((16 : Int32) &&& 31).toUInt32).toInt32).toUInt32 >>> ((4 : Int32) &&& 31).toUInt32).toInt32).toUInt32 >>> ((2 : Int32) &&& 31).toUInt32).toInt32).toUInt32 >>> ((1 : Int32) &&& 31).toUInt32).toInt32)))).symm, e0, rfl⟩
      · skip
        refine own_go (mkF m 40 #[iv ((x.toUInt32 >>> ((16 : Int32) &&& 31).toUInt32).toInt32), iv (15 : Int32)] []) (fun t' k => XS.icmpNo X0.here hx rfl (hb hby own_dn_37) rfl (flt hc37).1 k) ?_
        refine own_go (mkF m 43 #[iv ((x.toUInt32 >>> ((16 : Int32) &&& 31).toUInt32).toInt32), iv (7 : Int32)] []) (fun t' k => XS.iinc X0.here hx rfl (hb hby own_dn_40) rfl (l' := #[iv ((x.toUInt32 >>> ((16 : Int32) &&& 31).toUInt32).toInt32), iv (7 : Int32)]) rfl k) ?_
        refine own_go (mkF m 44 #[iv ((x.toUInt32 >>> ((16 : Int32) &&& 31).toUInt32).toInt32), iv (7 : Int32)] [(.int ((x.toUInt32 >>> ((16 : Int32) &&& 31).toUInt32).toInt32))]) (fun t' k => XS.iloadN X0.here hx rfl (hb hby own_dn_43) rfl  k) ?_
        refine own_go (mkF m 46 #[iv ((x.toUInt32 >>> ((16 : Int32) &&& 31).toUInt32).toInt32), iv (7 : Int32)] [(.int (8 : Int32)), (.int ((x.toUInt32 >>> ((16 : Int32) &&& 31).toUInt32).toInt32))]) (fun t' k => XS.bipush X0.here hx rfl (hb hby own_dn_44) k) ?_
        refine own_go (mkF m 47 #[iv ((x.toUInt32 >>> ((16 : Int32) &&& 31).toUInt32).toInt32), iv (7 : Int32)] [(.int ((((x.toUInt32 >>> ((16 : Int32) &&& 31).toUInt32).toInt32).toUInt32 >>> ((8 : Int32) &&& 31).toUInt32).toInt32))]) (fun t' k => XS.iushr X0.here hx rfl (hb hby own_dn_46) rfl k) ?_
        refine own_go (mkF m 48 #[iv ((((x.toUInt32 >>> ((16 : Int32) &&& 31).toUInt32).toInt32).toUInt32 >>> ((8 : Int32) &&& 31).toUInt32).toInt32), iv (7 : Int32)] []) (fun t' k => XS.istoreN X0.here hx rfl (hb hby own_dn_47) rfl (l' := #[iv ((((x.toUInt32 >>> ((16 : Int32) &&& 31).toUInt32).toInt32).toUInt32 >>> ((8 : Int32) &&& 31).toUInt32).toInt32), iv (7 : Int32)]) rfl k) ?_
        refine own_go (mkF m 49 #[iv ((((x.toUInt32 >>> ((16 : Int32) &&& 31).toUInt32).toInt32).toUInt32 >>> ((8 : Int32) &&& 31).toUInt32).toInt32), iv (7 : Int32)] [(.int ((((x.toUInt32 >>> ((16 : Int32) &&& 31).toUInt32).toInt32).toUInt32 >>> ((8 : Int32) &&& 31).toUInt32).toInt32))]) (fun t' k => XS.iloadN X0.here hx rfl (hb hby own_dn_48) rfl  k) ?_
        refine own_go (mkF m 51 #[iv ((((x.toUInt32 >>> ((16 : Int32) &&& 31).toUInt32).toInt32).toUInt32 >>> ((8 : Int32) &&& 31).toUInt32).toInt32), iv (7 : Int32)] [(.int (16 : Int32)), (.int ((((x.toUInt32 >>> ((16 : Int32) &&& 31).toUInt32).toInt32).toUInt32 >>> ((8 : Int32) &&& 31).toUInt32).toInt32))]) (fun t' k => XS.bipush X0.here hx rfl (hb hby own_dn_49) k) ?_
        by_cases hc51 : ((((x.toUInt32 >>> ((16 : Int32) &&& 31).toUInt32).toInt32).toUInt32 >>> ((8 : Int32) &&& 31).toUInt32).toInt32) < (16 : Int32)
        · skip
          refine own_go (mkF m 61 #[iv ((((x.toUInt32 >>> ((16 : Int32) &&& 31).toUInt32).toInt32).toUInt32 >>> ((8 : Int32) &&& 31).toUInt32).toInt32), iv (7 : Int32)] []) (fun t' k => XS.icmpYes X0.here hx rfl (pc0 := 51) (pc' := 61) rfl (hb hby own_dn_51) rfl (tlt hc51).1 (by decide) (by decide) k) ?_
          refine own_go (mkF m 62 #[iv ((((x.toUInt32 >>> ((16 : Int32) &&& 31).toUInt32).toInt32).toUInt32 >>> ((8 : Int32) &&& 31).toUInt32).toInt32), iv (7 : Int32)] [(.int ((((x.toUInt32 >>> ((16 : Int32) &&& 31).toUInt32).toInt32).toUInt32 >>> ((8 : Int32) &&& 31).toUInt32).toInt32))]) (fun t' k => XS.iloadN X0.here hx rfl (hb hby own_dn_61) rfl  k) ?_
          refine own_go (mkF m 63 #[iv ((((x.toUInt32 >>> ((16 : Int32) &&& 31).toUInt32).toInt32).toUInt32 >>> ((8 : Int32) &&& 31).toUInt32).toInt32), iv (7 : Int32)] [(.int (4 : Int32)), (.int ((((x.toUInt32 >>> ((16 : Int32) &&& 31).toUInt32).toInt32).toUInt32 >>> ((8 : Int32) &&& 31).toUInt32).toInt32))]) (fun t' k => XS.iconst X0.here hx rfl (hb hby own_dn_62) k) ?_
          by_cases hc63 : ((((x.toUInt32 >>> ((16 : Int32) &&& 31).toUInt32).toInt32).toUInt32 >>> ((8 : Int32) &&& 31).toUInt32).toInt32) < (4 : Int32)
          · skip
            refine own_go (mkF m 73 #[iv ((((x.toUInt32 >>> ((16 : Int32) &&& 31).toUInt32).toInt32).toUInt32 >>> ((8 : Int32) &&& 31).toUInt32).toInt32), iv (7 : Int32)] []) (fun t' k => XS.icmpYes X0.here hx rfl (pc0 := 63) (pc' := 73) rfl (hb hby own_dn_63) rfl (tlt hc63).1 (by decide) (by decide) k) ?_
            refine own_go (mkF m 74 #[iv ((((x.toUInt32 >>> ((16 : Int32) &&& 31).toUInt32).toInt32).toUInt32 >>> ((8 : Int32) &&& 31).toUInt32).toInt32), iv (7 : Int32)] [(.int (7 : Int32))]) (fun t' k => XS.iloadN X0.here hx rfl (hb hby own_dn_73) rfl  k) ?_
            refine own_go (mkF m 75 #[iv ((((x.toUInt32 >>> ((16 : Int32) &&& 31).toUInt32).toInt32).toUInt32 >>> ((8 : Int32) &&& 31).toUInt32).toInt32), iv (7 : Int32)] [(.int ((((x.toUInt32 >>> ((16 : Int32) &&& 31).toUInt32).toInt32).toUInt32 >>> ((8 : Int32) &&& 31).toUInt32).toInt32)), (.int (7 : Int32))]) (fun t' k => XS.iloadN X0.here hx rfl (hb hby own_dn_74) rfl  k) ?_
            refine own_go (mkF m 76 #[iv ((((x.toUInt32 >>> ((16 : Int32) &&& 31).toUInt32).toInt32).toUInt32 >>> ((8 : Int32) &&& 31).toUInt32).toInt32), iv (7 : Int32)] [(.int (1 : Int32)), (.int ((((x.toUInt32 >>> ((16 : Int32) &&& 31).toUInt32).toInt32).toUInt32 >>> ((8 : Int32) &&& 31).toUInt32).toInt32)), (.int (7 : Int32))]) (fun t' k => XS.iconst X0.here hx rfl (hb hby own_dn_75) k) ?_
            refine own_go (mkF m 77 #[iv ((((x.toUInt32 >>> ((16 : Int32) &&& 31).toUInt32).toInt32).toUInt32 >>> ((8 : Int32) &&& 31).toUInt32).toInt32), iv (7 : Int32)] [(.int ((((((x.toUInt32 >>> ((16 : Int32) &&& 31).toUInt32).toInt32).toUInt32 >>> ((8 : Int32) &&& 31).toUInt32).toInt32).toUInt32 >>> ((1 : Int32) &&& 31).toUInt32).toInt32)), (.int (7 : Int32))]) (fun t' k => XS.iushr X0.here hx rfl (hb hby own_dn_76) rfl k) ?_
            refine own_go (mkF m 78 #[iv ((((x.toUInt32 >>> ((16 : Int32) &&& 31).toUInt32).toInt32).toUInt32 >>> ((8 : Int32) &&& 31).toUInt32).toInt32), iv (7 : Int32)] [(.int ((7 : Int32) - ((((((x.toUInt32 >>> ((16 : Int32) &&& 31).toUInt32).toInt32).toUInt32 >>> ((8 : Int32) &&& 31).toUInt32).toInt32).toUInt32 >>> ((1 : Int32) &&& 31).toUInt32).toInt32)))]) (fun t' k => XS.isub X0.here hx rfl (hb hby own_dn_77) rfl k) ?_
            refine own_retI X0 hx hlk hret (hb hby own_dn_78) ?_ (by decide) (by decide)
            exact ⟨congrArg (fun z => some (Value.int z)) ((show (own_nlz x) = ((7 : Int32) - ((((((x.toUInt32 >>> ((16 : Int32) &&& 31).toUInt32).toInt32).toUInt32 >>> ((8 : Int32) &&& 31).toUInt32).toInt32).toUInt32 >>> ((1 : Int32) &&& 31).toUInt32).toInt32)) from ((if_pos hc1).trans ((if_neg hc22).trans ((if_neg hc37).trans ((if_pos hc51).trans ((if_pos hc63).trans rfl)))))).trans (by rfl : ((7 : Int32) - ((((((x.toUInt32 >>> ((16 : Int32) &&& 31).toUInt32).toInt32).toUInt32 >>> ((8 : Int32) &&& 31).toUInt32).toInt32).toUInt32 >>> ((1 : Int32) &&& 31).toUInt32).toInt32)) = ((7 : Int32) - ((((((x.toUInt32 >>> ((16 : Int32) &&& 31).toUInt32).toInt32).toUInt32 >>> ((8 : Int32) &&& 31).toUInt32).toInt32).toUInt32 >>> ((1 : Int32) &&& 31).toUInt32).toInt32)))).symm, e0, rfl⟩
          · skip
            refine own_go (mkF m 66 #[iv ((((x.toUInt32 >>> ((16 : Int32) &&& 31).toUInt32).toInt32).toUInt32 >>> ((8 : Int32) &&& 31).toUInt32).toInt32), iv (7 : Int32)] []) (fun t' k => XS.icmpNo X0.here hx rfl (hb hby own_dn_63) rfl (flt hc63).1 k) ?_
            refine own_go (mkF m 69 #[iv ((((x.toUInt32 >>> ((16 : Int32) &&& 31).toUInt32).toInt32).toUInt32 >>> ((8 : Int32) &&& 31).toUInt32).toInt32), iv (5 : Int32)] []) (fun t' k => XS.iinc X0.here hx rfl (hb hby own_dn_66) rfl (l' := #[iv ((((x.toUInt32 >>> ((16 : Int32) &&& 31).toUInt32).toInt32).toUInt32 >>> ((8 : Int32) &&& 31).toUInt32).toInt32), iv (5 : Int32)]) rfl k) ?_
            refine own_go (mkF m 70 #[iv ((((x.toUInt32 >>> ((16 : Int32) &&& 31).toUInt32).toInt32).toUInt32 >>> ((8 : Int32) &&& 31).toUInt32).toInt32), iv (5 : Int32)] [(.int ((((x.toUInt32 >>> ((16 : Int32) &&& 31).toUInt32).toInt32).toUInt32 >>> ((8 : Int32) &&& 31).toUInt32).toInt32))]) (fun t' k => XS.iloadN X0.here hx rfl (hb hby own_dn_69) rfl  k) ?_
            refine own_go (mkF m 71 #[iv ((((x.toUInt32 >>> ((16 : Int32) &&& 31).toUInt32).toInt32).toUInt32 >>> ((8 : Int32) &&& 31).toUInt32).toInt32), iv (5 : Int32)] [(.int (2 : Int32)), (.int ((((x.toUInt32 >>> ((16 : Int32) &&& 31).toUInt32).toInt32).toUInt32 >>> ((8 : Int32) &&& 31).toUInt32).toInt32))]) (fun t' k => XS.iconst X0.here hx rfl (hb hby own_dn_70) k) ?_
            refine own_go (mkF m 72 #[iv ((((x.toUInt32 >>> ((16 : Int32) &&& 31).toUInt32).toInt32).toUInt32 >>> ((8 : Int32) &&& 31).toUInt32).toInt32), iv (5 : Int32)] [(.int ((((((x.toUInt32 >>> ((16 : Int32) &&& 31).toUInt32).toInt32).toUInt32 >>> ((8 : Int32) &&& 31).toUInt32).toInt32).toUInt32 >>> ((2 : Int32) &&& 31).toUInt32).toInt32))]) (fun t' k => XS.iushr X0.here hx rfl (hb hby own_dn_71) rfl k) ?_
            refine own_go (mkF m 73 #[iv ((((((x.toUInt32 >>> ((16 : Int32) &&& 31).toUInt32).toInt32).toUInt32 >>> ((8 : Int32) &&& 31).toUInt32).toInt32).toUInt32 >>> ((2 : Int32) &&& 31).toUInt32).toInt32), iv (5 : Int32)] []) (fun t' k => XS.istoreN X0.here hx rfl (hb hby own_dn_72) rfl (l' := #[iv ((((((x.toUInt32 >>> ((16 : Int32) &&& 31).toUInt32).toInt32).toUInt32 >>> ((8 : Int32) &&& 31).toUInt32).toInt32).toUInt32 >>> ((2 : Int32) &&& 31).toUInt32).toInt32), iv (5 : Int32)]) rfl k) ?_
            refine own_go (mkF m 74 #[iv ((((((x.toUInt32 >>> ((16 : Int32) &&& 31).toUInt32).toInt32).toUInt32 >>> ((8 : Int32) &&& 31).toUInt32).toInt32).toUInt32 >>> ((2 : Int32) &&& 31).toUInt32).toInt32), iv (5 : Int32)] [(.int (5 : Int32))]) (fun t' k => XS.iloadN X0.here hx rfl (hb hby own_dn_73) rfl  k) ?_
            refine own_go (mkF m 75 #[iv ((((((x.toUInt32 >>> ((16 : Int32) &&& 31).toUInt32).toInt32).toUInt32 >>> ((8 : Int32) &&& 31).toUInt32).toInt32).toUInt32 >>> ((2 : Int32) &&& 31).toUInt32).toInt32), iv (5 : Int32)] [(.int ((((((x.toUInt32 >>> ((16 : Int32) &&& 31).toUInt32).toInt32).toUInt32 >>> ((8 : Int32) &&& 31).toUInt32).toInt32).toUInt32 >>> ((2 : Int32) &&& 31).toUInt32).toInt32)), (.int (5 : Int32))]) (fun t' k => XS.iloadN X0.here hx rfl (hb hby own_dn_74) rfl  k) ?_
            refine own_go (mkF m 76 #[iv ((((((x.toUInt32 >>> ((16 : Int32) &&& 31).toUInt32).toInt32).toUInt32 >>> ((8 : Int32) &&& 31).toUInt32).toInt32).toUInt32 >>> ((2 : Int32) &&& 31).toUInt32).toInt32), iv (5 : Int32)] [(.int (1 : Int32)), (.int ((((((x.toUInt32 >>> ((16 : Int32) &&& 31).toUInt32).toInt32).toUInt32 >>> ((8 : Int32) &&& 31).toUInt32).toInt32).toUInt32 >>> ((2 : Int32) &&& 31).toUInt32).toInt32)), (.int (5 : Int32))]) (fun t' k => XS.iconst X0.here hx rfl (hb hby own_dn_75) k) ?_
            refine own_go (mkF m 77 #[iv ((((((x.toUInt32 >>> ((16 : Int32) &&& 31).toUInt32).toInt32).toUInt32 >>> ((8 : Int32) &&& 31).toUInt32).toInt32).toUInt32 >>> ((2 : Int32) &&& 31).toUInt32).toInt32), iv (5 : Int32)] [(.int ((((((((x.toUInt32 >>> ((16 : Int32) &&& 31).toUInt32).toInt32).toUInt32 >>> ((8 : Int32) &&& 31).toUInt32).toInt32).toUInt32 >>> ((2 : Int32) &&& 31).toUInt32).toInt32).toUInt32 >>> ((1 : Int32) &&& 31).toUInt32).toInt32)), (.int (5 : Int32))]) (fun t' k => XS.iushr X0.here hx rfl (hb hby own_dn_76) rfl k) ?_
            refine own_go (mkF m 78 #[iv ((((((x.toUInt32 >>> ((16 : Int32) &&& 31).toUInt32).toInt32).toUInt32 >>> ((8 : Int32) &&& 31).toUInt32).toInt32).toUInt32 >>> ((2 : Int32) &&& 31).toUInt32).toInt32), iv (5 : Int32)] [(.int ((5 : Int32) - ((((((((x.toUInt32 >>> ((16 : Int32) &&& 31).toUInt32).toInt32).toUInt32 >>> ((8 : Int32) &&& 31).toUInt32).toInt32).toUInt32 >>> ((2 : Int32) &&& 31).toUInt32).toInt32).toUInt32 >>> ((1 : Int32) &&& 31).toUInt32).toInt32)))]) (fun t' k => XS.isub X0.here hx rfl (hb hby own_dn_77) rfl k) ?_
            refine own_retI X0 hx hlk hret (hb hby own_dn_78) ?_ (by decide) (by decide)
            exact ⟨congrArg (fun z => some (Value.int z)) ((show (own_nlz x) = ((5 : Int32) - ((((((((x.toUInt32 >>> ((16 : Int32) &&& 31).toUInt32).toInt32).toUInt32 >>> ((8 : Int32) &&& 31).toUInt32).toInt32).toUInt32 >>> ((2 : Int32) &&& 31).toUInt32).toInt32).toUInt32 >>> ((1 : Int32) &&& 31).toUInt32).toInt32)) from ((if_pos hc1).trans ((if_neg hc22).trans ((if_neg hc37).trans ((if_pos hc51).trans ((if_neg hc63).trans rfl)))))).trans (by rfl : ((5 : Int32) - ((((((((x.toUInt32 >>> ((16 : Int32) &&& 31).toUInt32).toInt32).toUInt32 >>> ((8 : Int32) &&& 31).toUInt32).toInt32).toUInt32 >>> ((2 : Int32) &&& 31).toUInt32).toInt32).toUInt32 >>> ((1 : Int32) &&& 31).toUInt32).toInt32)) = ((5 : Int32) - ((((((((x.toUInt32 >>> ((16 : Int32) &&& 31).toUInt32).toInt32).toUInt32 >>> ((8 : Int32) &&& 31).toUInt32).toInt32).toUInt32 >>> ((2 : Int32) &&& 31).toUInt32).toInt32).toUInt32 >>> ((1 : Int32) &&& 31).toUInt32).toInt32)))).symm, e0, rfl⟩
        · skip
          refine own_go (mkF m 54 #[iv ((((x.toUInt32 >>> ((16 : Int32) &&& 31).toUInt32).toInt32).toUInt32 >>> ((8 : Int32) &&& 31).toUInt32).toInt32), iv (7 : Int32)] []) (fun t' k => XS.icmpNo X0.here hx rfl (hb hby own_dn_51) rfl (flt hc51).1 k) ?_
          refine own_go (mkF m 57 #[iv ((((x.toUInt32 >>> ((16 : Int32) &&& 31).toUInt32).toInt32).toUInt32 >>> ((8 : Int32) &&& 31).toUInt32).toInt32), iv (3 : Int32)] []) (fun t' k => XS.iinc X0.here hx rfl (hb hby own_dn_54) rfl (l' := #[iv ((((x.toUInt32 >>> ((16 : Int32) &&& 31).toUInt32).toInt32).toUInt32 >>> ((8 : Int32) &&& 31).toUInt32).toInt32), iv (3 : Int32)]) rfl k) ?_
          refine own_go (mkF m 58 #[iv ((((x.toUInt32 >>> ((16 : Int32) &&& 31).toUInt32).toInt32).toUInt32 >>> ((8 : Int32) &&& 31).toUInt32).toInt32), iv (3 : Int32)] [(.int ((((x.toUInt32 >>> ((16 : Int32) &&& 31).toUInt32).toInt32).toUInt32 >>> ((8 : Int32) &&& 31).toUInt32).toInt32))]) (fun t' k => XS.iloadN X0.here hx rfl (hb hby own_dn_57) rfl  k) ?_
          refine own_go (mkF m 59 #[iv ((((x.toUInt32 >>> ((16 : Int32) &&& 31).toUInt32).toInt32).toUInt32 >>> ((8 : Int32) &&& 31).toUInt32).toInt32), iv (3 : Int32)] [(.int (4 : Int32)), (.int ((((x.toUInt32 >>> ((16 : Int32) &&& 31).toUInt32).toInt32).toUInt32 >>> ((8 : Int32) &&& 31).toUInt32).toInt32))]) (fun t' k => XS.iconst X0.here hx rfl (hb hby own_dn_58) k) ?_
          refine own_go (mkF m 60 #[iv ((((x.toUInt32 >>> ((16 : Int32) &&& 31).toUInt32).toInt32).toUInt32 >>> ((8 : Int32) &&& 31).toUInt32).toInt32), iv (3 : Int32)] [(.int ((((((x.toUInt32 >>> ((16 : Int32) &&& 31).toUInt32).toInt32).toUInt32 >>> ((8 : Int32) &&& 31).toUInt32).toInt32).toUInt32 >>> ((4 : Int32) &&& 31).toUInt32).toInt32))]) (fun t' k => XS.iushr X0.here hx rfl (hb hby own_dn_59) rfl k) ?_
          refine own_go (mkF m 61 #[iv ((((((x.toUInt32 >>> ((16 : Int32) &&& 31).toUInt32).toInt32).toUInt32 >>> ((8 : Int32) &&& 31).toUInt32).toInt32).toUInt32 >>> ((4 : Int32) &&& 31).toUInt32).toInt32), iv (3 : Int32)] []) (fun t' k => XS.istoreN X0.here hx rfl (hb hby own_dn_60) rfl (l' := #[iv ((((((x.toUInt32 >>> ((16 : Int32) &&& 31).toUInt32).toInt32).toUInt32 >>> ((8 : Int32) &&& 31).toUInt32).toInt32).toUInt32 >>> ((4 : Int32) &&& 31).toUInt32).toInt32), iv (3 : Int32)]) rfl k) ?_
          refine own_go (mkF m 62 #[iv ((((((x.toUInt32 >>> ((16 : Int32) &&& 31).toUInt32).toInt32).toUInt32 >>> ((8 : Int32) &&& 31).toUInt32).toInt32).toUInt32 >>> ((4 : Int32) &&& 31).toUInt32).toInt32), iv (3 : Int32)] [(.int ((((((x.toUInt32 >>> ((16 : Int32) &&& 31).toUInt32).toInt32).toUInt32 >>> ((8 : Int32) &&& 31).toUInt32).toInt32).toUInt32 >>> ((4 : Int32) &&& 31).toUInt32).toInt32))]) (fun t' k => XS.iloadN X0.here hx rfl (hb hby own_dn_61) rfl  k) ?_
          refine own_go (mkF m 63 #[iv ((((((x.toUInt32 >>> ((16 : Int32) &&& 31).toUInt32).toInt32).toUInt32 >>> ((8 : Int32) &&& 31).toUInt32).toInt32).toUInt32 >>> ((4 : Int32) &&& 31).toUInt32).toInt32), iv (3 : Int32)] [(.int (4 : Int32)), (.int ((((((x.toUInt32 >>> ((16 : Int32) &&& 31).toUInt32).toInt32).toUInt32 >>> ((8 : Int32) &&& 31).toUInt32).toInt32).toUInt32 >>> ((4 : Int32) &&& 31).toUInt32).toInt32))]) (fun t' k => XS.iconst X0.here hx rfl (hb hby own_dn_62) k) ?_
          by_cases hc63 : ((((((x.toUInt32 >>> ((16 : Int32) &&& 31).toUInt32).toInt32).toUInt32 >>> ((8 : Int32) &&& 31).toUInt32).toInt32).toUInt32 >>> ((4 : Int32) &&& 31).toUInt32).toInt32) < (4 : Int32)
          · skip
            refine own_go (mkF m 73 #[iv ((((((x.toUInt32 >>> ((16 : Int32) &&& 31).toUInt32).toInt32).toUInt32 >>> ((8 : Int32) &&& 31).toUInt32).toInt32).toUInt32 >>> ((4 : Int32) &&& 31).toUInt32).toInt32), iv (3 : Int32)] []) (fun t' k => XS.icmpYes X0.here hx rfl (pc0 := 63) (pc' := 73) rfl (hb hby own_dn_63) rfl (tlt hc63).1 (by decide) (by decide) k) ?_
            refine own_go (mkF m 74 #[iv ((((((x.toUInt32 >>> ((16 : Int32) &&& 31).toUInt32).toInt32).toUInt32 >>> ((8 : Int32) &&& 31).toUInt32).toInt32).toUInt32 >>> ((4 : Int32) &&& 31).toUInt32).toInt32), iv (3 : Int32)] [(.int (3 : Int32))]) (fun t' k => XS.iloadN X0.here hx rfl (hb hby own_dn_73) rfl  k) ?_
            refine own_go (mkF m 75 #[iv ((((((x.toUInt32 >>> ((16 : Int32) &&& 31).toUInt32).toInt32).toUInt32 >>> ((8 : Int32) &&& 31).toUInt32).toInt32).toUInt32 >>> ((4 : Int32) &&& 31).toUInt32).toInt32), iv (3 : Int32)] [(.int ((((((x.toUInt32 >>> ((16 : Int32) &&& 31).toUInt32).toInt32).toUInt32 >>> ((8 : Int32) &&& 31).toUInt32).toInt32).toUInt32 >>> ((4 : Int32) &&& 31).toUInt32).toInt32)), (.int (3 : Int32))]) (fun t' k => XS.iloadN X0.here hx rfl (hb hby own_dn_74) rfl  k) ?_
            refine own_go (mkF m 76 #[iv ((((((x.toUInt32 >>> ((16 : Int32) &&& 31).toUInt32).toInt32).toUInt32 >>> ((8 : Int32) &&& 31).toUInt32).toInt32).toUInt32 >>> ((4 : Int32) &&& 31).toUInt32).toInt32), iv (3 : Int32)] [(.int (1 : Int32)), (.int ((((((x.toUInt32 >>> ((16 : Int32) &&& 31).toUInt32).toInt32).toUInt32 >>> ((8 : Int32) &&& 31).toUInt32).toInt32).toUInt32 >>> ((4 : Int32) &&& 31).toUInt32).toInt32)), (.int (3 : Int32))]) (fun t' k => XS.iconst X0.here hx rfl (hb hby own_dn_75) k) ?_
            refine own_go (mkF m 77 #[iv ((((((x.toUInt32 >>> ((16 : Int32) &&& 31).toUInt32).toInt32).toUInt32 >>> ((8 : Int32) &&& 31).toUInt32).toInt32).toUInt32 >>> ((4 : Int32) &&& 31).toUInt32).toInt32), iv (3 : Int32)] [(.int ((((((((x.toUInt32 >>> ((16 : Int32) &&& 31).toUInt32).toInt32).toUInt32 >>> ((8 : Int32) &&& 31).toUInt32).toInt32).toUInt32 >>> ((4 : Int32) &&& 31).toUInt32).toInt32).toUInt32 >>> ((1 : Int32) &&& 31).toUInt32).toInt32)), (.int (3 : Int32))]) (fun t' k => XS.iushr X0.here hx rfl (hb hby own_dn_76) rfl k) ?_
            refine own_go (mkF m 78 #[iv ((((((x.toUInt32 >>> ((16 : Int32) &&& 31).toUInt32).toInt32).toUInt32 >>> ((8 : Int32) &&& 31).toUInt32).toInt32).toUInt32 >>> ((4 : Int32) &&& 31).toUInt32).toInt32), iv (3 : Int32)] [(.int ((3 : Int32) - ((((((((x.toUInt32 >>> ((16 : Int32) &&& 31).toUInt32).toInt32).toUInt32 >>> ((8 : Int32) &&& 31).toUInt32).toInt32).toUInt32 >>> ((4 : Int32) &&& 31).toUInt32).toInt32).toUInt32 >>> ((1 : Int32) &&& 31).toUInt32).toInt32)))]) (fun t' k => XS.isub X0.here hx rfl (hb hby own_dn_77) rfl k) ?_
            refine own_retI X0 hx hlk hret (hb hby own_dn_78) ?_ (by decide) (by decide)
            exact ⟨congrArg (fun z => some (Value.int z)) ((show (own_nlz x) = ((3 : Int32) - ((((((((x.toUInt32 >>> ((16 : Int32) &&& 31).toUInt32).toInt32).toUInt32 >>> ((8 : Int32) &&& 31).toUInt32).toInt32).toUInt32 >>> ((4 : Int32) &&& 31).toUInt32).toInt32).toUInt32 >>> ((1 : Int32) &&& 31).toUInt32).toInt32)) from ((if_pos hc1).trans ((if_neg hc22).trans ((if_neg hc37).trans ((if_neg hc51).trans ((if_pos hc63).trans rfl)))))).trans (by rfl : ((3 : Int32) - ((((((((x.toUInt32 >>> ((16 : Int32) &&& 31).toUInt32).toInt32).toUInt32 >>> ((8 : Int32) &&& 31).toUInt32).toInt32).toUInt32 >>> ((4 : Int32) &&& 31).toUInt32).toInt32).toUInt32 >>> ((1 : Int32) &&& 31).toUInt32).toInt32)) = ((3 : Int32) - ((((((((x.toUInt32 >>> ((16 : Int32) &&& 31).toUInt32).toInt32).toUInt32 >>> ((8 : Int32) &&& 31).toUInt32).toInt32).toUInt32 >>> ((4 : Int32) &&& 31).toUInt32).toInt32).toUInt32 >>> ((1 : Int32) &&& 31).toUInt32).toInt32)))).symm, e0, rfl⟩
          · skip
            refine own_go (mkF m 66 #[iv ((((((x.toUInt32 >>> ((16 : Int32) &&& 31).toUInt32).toInt32).toUInt32 >>> ((8 : Int32) &&& 31).toUInt32).toInt32).toUInt32 >>> ((4 : Int32) &&& 31).toUInt32).toInt32), iv (3 : Int32)] []) (fun t' k => XS.icmpNo X0.here hx rfl (hb hby own_dn_63) rfl (flt hc63).1 k) ?_
            refine own_go (mkF m 69 #[iv ((((((x.toUInt32 >>> ((16 : Int32) &&& 31).toUInt32).toInt32).toUInt32 >>> ((8 : Int32) &&& 31).toUInt32).toInt32).toUInt32 >>> ((4 : Int32) &&& 31).toUInt32).toInt32), iv (1 : Int32)] []) (fun t' k => XS.iinc X0.here hx rfl (hb hby own_dn_66) rfl (l' := #[iv ((((((x.toUInt32 >>> ((16 : Int32) &&& 31).toUInt32).toInt32).toUInt32 >>> ((8 : Int32) &&& 31).toUInt32).toInt32).toUInt32 >>> ((4 : Int32) &&& 31).toUInt32).toInt32), iv (1 : Int32)]) rfl k) ?_
            refine own_go (mkF m 70 #[iv ((((((x.toUInt32 >>> ((16 : Int32) &&& 31).toUInt32).toInt32).toUInt32 >>> ((8 : Int32) &&& 31).toUInt32).toInt32).toUInt32 >>> ((4 : Int32) &&& 31).toUInt32).toInt32), iv (1 : Int32)] [(.int ((((((x.toUInt32 >>> ((16 : Int32) &&& 31).toUInt32).toInt32).toUInt32 >>> ((8 : Int32) &&& 31).toUInt32).toInt32).toUInt32 >>> ((4 : Int32) &&& 31).toUInt32).toInt32))]) (fun t' k => XS.iloadN X0.here hx rfl (hb hby own_dn_69) rfl  k) ?_
            refine own_go (mkF m 71 #[iv ((((((x.toUInt32 >>> ((16 : Int32) &&& 31).toUInt32).toInt32).toUInt32 >>> ((8 : Int32) &&& 31).toUInt32).toInt32).toUInt32 >>> ((4 : Int32) &&& 31).toUInt32).toInt32), iv (1 : Int32)] [(.int (2 : Int32)), (.int ((((((x.toUInt32 >>> ((16 : Int32) &&& 31).toUInt32).toInt32).toUInt32 >>> ((8 : Int32) &&& 31).toUInt32).toInt32).toUInt32 >>> ((4 : Int32) &&& 31).toUInt32).toInt32))]) (fun t' k => XS.iconst X0.here hx rfl (hb hby own_dn_70) k) ?_
            refine own_go (mkF m 72 #[iv ((((((x.toUInt32 >>> ((16 : Int32) &&& 31).toUInt32).toInt32).toUInt32 >>> ((8 : Int32) &&& 31).toUInt32).toInt32).toUInt32 >>> ((4 : Int32) &&& 31).toUInt32).toInt32), iv (1 : Int32)] [(.int ((((((((x.toUInt32 >>> ((16 : Int32) &&& 31).toUInt32).toInt32).toUInt32 >>> ((8 : Int32) &&& 31).toUInt32).toInt32).toUInt32 >>> ((4 : Int32) &&& 31).toUInt32).toInt32).toUInt32 >>> ((2 : Int32) &&& 31).toUInt32).toInt32))]) (fun t' k => XS.iushr X0.here hx rfl (hb hby own_dn_71) rfl k) ?_
            refine own_go (mkF m 73 #[iv ((((((((x.toUInt32 >>> ((16 : Int32) &&& 31).toUInt32).toInt32).toUInt32 >>> ((8 : Int32) &&& 31).toUInt32).toInt32).toUInt32 >>> ((4 : Int32) &&& 31).toUInt32).toInt32).toUInt32 >>> ((2 : Int32) &&& 31).toUInt32).toInt32), iv (1 : Int32)] []) (fun t' k => XS.istoreN X0.here hx rfl (hb hby own_dn_72) rfl (l' := #[iv ((((((((x.toUInt32 >>> ((16 : Int32) &&& 31).toUInt32).toInt32).toUInt32 >>> ((8 : Int32) &&& 31).toUInt32).toInt32).toUInt32 >>> ((4 : Int32) &&& 31).toUInt32).toInt32).toUInt32 >>> ((2 : Int32) &&& 31).toUInt32).toInt32), iv (1 : Int32)]) rfl k) ?_
            refine own_go (mkF m 74 #[iv ((((((((x.toUInt32 >>> ((16 : Int32) &&& 31).toUInt32).toInt32).toUInt32 >>> ((8 : Int32) &&& 31).toUInt32).toInt32).toUInt32 >>> ((4 : Int32) &&& 31).toUInt32).toInt32).toUInt32 >>> ((2 : Int32) &&& 31).toUInt32).toInt32), iv (1 : Int32)] [(.int (1 : Int32))]) (fun t' k => XS.iloadN X0.here hx rfl (hb hby own_dn_73) rfl  k) ?_
            refine own_go (mkF m 75 #[iv ((((((((x.toUInt32 >>> ((16 : Int32) &&& 31).toUInt32).toInt32).toUInt32 >>> ((8 : Int32) &&& 31).toUInt32).toInt32).toUInt32 >>> ((4 : Int32) &&& 31).toUInt32).toInt32).toUInt32 >>> ((2 : Int32) &&& 31).toUInt32).toInt32), iv (1 : Int32)] [(.int ((((((((x.toUInt32 >>> ((16 : Int32) &&& 31).toUInt32).toInt32).toUInt32 >>> ((8 : Int32) &&& 31).toUInt32).toInt32).toUInt32 >>> ((4 : Int32) &&& 31).toUInt32).toInt32).toUInt32 >>> ((2 : Int32) &&& 31).toUInt32).toInt32)), (.int (1 : Int32))]) (fun t' k => XS.iloadN X0.here hx rfl (hb hby own_dn_74) rfl  k) ?_
            refine own_go (mkF m 76 #[iv ((((((((x.toUInt32 >>> ((16 : Int32) &&& 31).toUInt32).toInt32).toUInt32 >>> ((8 : Int32) &&& 31).toUInt32).toInt32).toUInt32 >>> ((4 : Int32) &&& 31).toUInt32).toInt32).toUInt32 >>> ((2 : Int32) &&& 31).toUInt32).toInt32), iv (1 : Int32)] [(.int (1 : Int32)), (.int ((((((((x.toUInt32 >>> ((16 : Int32) &&& 31).toUInt32).toInt32).toUInt32 >>> ((8 : Int32) &&& 31).toUInt32).toInt32).toUInt32 >>> ((4 : Int32) &&& 31).toUInt32).toInt32).toUInt32 >>> ((2 : Int32) &&& 31).toUInt32).toInt32)), (.int (1 : Int32))]) (fun t' k => XS.iconst X0.here hx rfl (hb hby own_dn_75) k) ?_
            refine own_go (mkF m 77 #[iv ((((((((x.toUInt32 >>> ((16 : Int32) &&& 31).toUInt32).toInt32).toUInt32 >>> ((8 : Int32) &&& 31).toUInt32).toInt32).toUInt32 >>> ((4 : Int32) &&& 31).toUInt32).toInt32).toUInt32 >>> ((2 : Int32) &&& 31).toUInt32).toInt32), iv (1 : Int32)] [(.int ((((((((((x.toUInt32 >>> ((16 : Int32) &&& 31).toUInt32).toInt32).toUInt32 >>> ((8 : Int32) &&& 31).toUInt32).toInt32).toUInt32 >>> ((4 : Int32) &&& 31).toUInt32).toInt32).toUInt32 >>> ((2 : Int32) &&& 31).toUInt32).toInt32).toUInt32 >>> ((1 : Int32) &&& 31).toUInt32).toInt32)), (.int (1 : Int32))]) (fun t' k => XS.iushr X0.here hx rfl (hb hby own_dn_76) rfl k) ?_
            refine own_go (mkF m 78 #[iv ((((((((x.toUInt32 >>> ((16 : Int32) &&& 31).toUInt32).toInt32).toUInt32 >>> ((8 : Int32) &&& 31).toUInt32).toInt32).toUInt32 >>> ((4 : Int32) &&& 31).toUInt32).toInt32).toUInt32 >>> ((2 : Int32) &&& 31).toUInt32).toInt32), iv (1 : Int32)] [(.int ((1 : Int32) - ((((((((((x.toUInt32 >>> ((16 : Int32) &&& 31).toUInt32).toInt32).toUInt32 >>> ((8 : Int32) &&& 31).toUInt32).toInt32).toUInt32 >>> ((4 : Int32) &&& 31).toUInt32).toInt32).toUInt32 >>> ((2 : Int32) &&& 31).toUInt32).toInt32).toUInt32 >>> ((1 : Int32) &&& 31).toUInt32).toInt32)))]) (fun t' k => XS.isub X0.here hx rfl (hb hby own_dn_77) rfl k) ?_
            refine own_retI X0 hx hlk hret (hb hby own_dn_78) ?_ (by decide) (by decide)
            exact ⟨congrArg (fun z => some (Value.int z)) ((show (own_nlz x) = ((1 : Int32) - ((((((((((x.toUInt32 >>> ((16 : Int32) &&& 31).toUInt32).toInt32).toUInt32 >>> ((8 : Int32) &&& 31).toUInt32).toInt32).toUInt32 >>> ((4 : Int32) &&& 31).toUInt32).toInt32).toUInt32 >>> ((2 : Int32) &&& 31).toUInt32).toInt32).toUInt32 >>> ((1 : Int32) &&& 31).toUInt32).toInt32)) from ((if_pos hc1).trans ((if_neg hc22).trans ((if_neg hc37).trans ((if_neg hc51).trans ((if_neg hc63).trans rfl)))))).trans (by rfl : ((1 : Int32) - ((((((((((x.toUInt32 >>> ((16 : Int32) &&& 31).toUInt32).toInt32).toUInt32 >>> ((8 : Int32) &&& 31).toUInt32).toInt32).toUInt32 >>> ((4 : Int32) &&& 31).toUInt32).toInt32).toUInt32 >>> ((2 : Int32) &&& 31).toUInt32).toInt32).toUInt32 >>> ((1 : Int32) &&& 31).toUInt32).toInt32)) = ((1 : Int32) - ((((((((((x.toUInt32 >>> ((16 : Int32) &&& 31).toUInt32).toInt32).toUInt32 >>> ((8 : Int32) &&& 31).toUInt32).toInt32).toUInt32 >>> ((4 : Int32) &&& 31).toUInt32).toInt32).toUInt32 >>> ((2 : Int32) &&& 31).toUInt32).toInt32).toUInt32 >>> ((1 : Int32) &&& 31).toUInt32).toInt32)))).symm, e0, rfl⟩
  · skip
    refine own_go (mkF m 4 #[iv x, .unset] []) (fun t' k => XS.ifNo X0.here hx rfl (hb hby own_dn_1) rfl ((if0 _ _).trans (flt hc1).2.2.1) k) ?_
    refine own_go (mkF m 5 #[iv x, .unset] [(.int x)]) (fun t' k => XS.iloadN X0.here hx rfl (hb hby own_dn_4) rfl  k) ?_
    by_cases hc5 : x = (0 : Int32)
    · skip
      refine own_go (mkF m 8 #[iv x, .unset] []) (fun t' k => XS.ifNo X0.here hx rfl (hb hby own_dn_5) rfl ((if0 _ _).trans (teq hc5).2) k) ?_
      refine own_go (mkF m 10 #[iv x, .unset] [(.int (32 : Int32))]) (fun t' k => XS.bipush X0.here hx rfl (hb hby own_dn_8) k) ?_
      refine own_go (mkF m 14 #[iv x, .unset] [(.int (32 : Int32))]) (fun t' k => XS.goto X0.here hx rfl (pc0 := 10) (pc' := 14) rfl (hb hby own_dn_10) (by decide) (by decide) k) ?_
      refine own_retI X0 hx hlk hret (hb hby own_dn_14) ?_ (by decide) (by decide)
      exact ⟨congrArg (fun z => some (Value.int z)) ((show (own_nlz x) = (32 : Int32) from ((if_neg hc1).trans ((if_pos hc5).trans rfl))).trans (by rfl : (32 : Int32) = (32 : Int32))).symm, e0, rfl⟩
    · skip
      refine own_go (mkF m 13 #[iv x, .unset] []) (fun t' k => XS.ifYes X0.here hx rfl (pc0 := 5) (pc' := 13) rfl (hb hby own_dn_5) rfl ((if0 _ _).trans (feq hc5).2) (by decide) (by decide) k) ?_
      refine own_go (mkF m 14 #[iv x, .unset] [(.int (0 : Int32))]) (fun t' k => XS.iconst X0.here hx rfl (hb hby own_dn_13) k) ?_
      refine own_retI X0 hx hlk hret (hb hby own_dn_14) ?_ (by decide) (by decide)
      exact ⟨congrArg (fun z => some (Value.int z)) ((show (own_nlz x) = (0 : Int32) from ((if_neg hc1).trans ((if_neg hc5).trans rfl))).trans (by rfl : (0 : Int32) = (0 : Int32))).symm, e0, rfl⟩

def own_hob (x : Int32) : Int32 := (x &&& (((-2147483648 : Int32).toUInt32 >>> ((own_nlz x) &&& 31).toUInt32).toInt32))
theorem own_dh_0 : decode jdk_33_method_45_code 0 = .ok (.iload_n 0, 1) := by decide +kernel
theorem own_dh_1 : decode jdk_33_method_45_code 1 = .ok (.ldc 127, 2) := by decide +kernel
theorem own_dh_3 : decode jdk_33_method_45_code 3 = .ok (.iload_n 0, 1) := by decide +kernel
theorem own_dh_4 : decode jdk_33_method_45_code 4 = .ok (.invokestatic 51, 3) := by decide +kernel
theorem own_dh_7 : decode jdk_33_method_45_code 7 = .ok (.iushr, 1) := by decide +kernel
theorem own_dh_8 : decode jdk_33_method_45_code 8 = .ok (.iand, 1) := by decide +kernel
theorem own_dh_9 : decode jdk_33_method_45_code 9 = .ok (.ireturn, 1) := by decide +kernel
theorem own_pn_own_hobC : plainFor (⟨"java/lang/Integer", "highestOneBit", "(I)I"⟩ : MethodName) = true := plainFor_of_name (show plainName "java/lang/Integer" = true by first | (simp [plainName, overriddenIn]; done) | decide +kernel)
set_option maxRecDepth 65536 in
set_option maxHeartbeats 40000000 in
theorem own_hobC (l : Launch) (Z : State) (a0 : Array Value) (hw : ∀ d ∈ tables_1, d.before a0 Z = true) (ws : List Jvm.Cond) (h0 : Heap) (x : Int32)  :
    own_C l Z (⟨"java/lang/Integer", "highestOneBit", "(I)I"⟩ : MethodName) jdk_33_method_45_code 1 (some .int) ws ({ frames := 1, cells := 0, slots := 0, locals := 15 } : Room) #[(.int x)] h0 (own_P (.int (own_hob x)) h0) := by
  refine own_met own_pn_own_hobC #[iv x] (fun m => by first | (simp [entryFrame, mkF, argsToLocals, Value.category]; done) | rfl) ?_
  intro p e s m below meth c s₁ hx hby hml hown hret hlk hZ hnm X0 e0
  refine own_go (mkF m 1 #[iv x] [(.int x)]) (fun t' k => XS.iloadN X0.here hx rfl (hb hby own_dh_0) rfl  k) ?_
  refine own_go (mkF m 3 #[iv x] [(.int (-2147483648 : Int32)), (.int x)]) (fun t' k => X0.ldcInt hx hown (mvT hZ (hw _ (List.mem_of_getElem? (i := 27) rfl))) (g := (mkF m 1 #[iv x] [(.int x)])) rfl (hb hby own_dh_1) _ k) ?_
  refine own_go (mkF m 4 #[iv x] [(.int x), (.int (-2147483648 : Int32)), (.int x)]) (fun t' k => XS.iloadN X0.here hx rfl (hb hby own_dh_3) rfl  k) ?_
  refine own_callP X0 hx hZ (y := (⟨"java/lang/Integer", "numberOfLeadingZeros", "(I)I"⟩ : MethodName)) (fr := 0) (lo := 0) (r := (.int (own_nlz x))) hown (hw _ (List.mem_of_getElem? (i := 28) rfl)) (hw _ (List.mem_of_getElem? (i := 29) rfl)) (hw _ (List.mem_of_getElem? (i := 25) rfl)) (hw _ (List.mem_of_getElem? (i := 30) rfl)) (by decide) e0 [(.int x)] [(.int (-2147483648 : Int32)), (.int x)] (own_nlzC l Z a0 hw [] h0 x) 2 (by decide) (by decide) (Nat.le_of_eq rfl) (by decide) (by decide) (by rw [hml]; rfl) (lenOf own_pd0 rfl) rfl (hb hby own_dh_4) ?_
  intro T1 X1 e1
  refine own_go (mkF m 8 #[iv x] [(.int (((-2147483648 : Int32).toUInt32 >>> ((own_nlz x) &&& 31).toUInt32).toInt32)), (.int x)]) (fun t' k => XS.iushr X1.here hx rfl (hb hby own_dh_7) rfl k) ?_
  refine own_go (mkF m 9 #[iv x] [(.int (x &&& (((-2147483648 : Int32).toUInt32 >>> ((own_nlz x) &&& 31).toUInt32).toInt32)))]) (fun t' k => XS.iand X1.here hx rfl (hb hby own_dh_8) rfl k) ?_
  refine own_retI X1 hx hlk hret (hb hby own_dh_9) ?_ (by decide) (by decide)
  exact ⟨congrArg (fun z => some (Value.int z)) ((show (own_hob x) = (x &&& (((-2147483648 : Int32).toUInt32 >>> ((own_nlz x) &&& 31).toUInt32).toInt32)) from rfl).trans (by rfl : (x &&& (((-2147483648 : Int32).toUInt32 >>> ((own_nlz x) &&& 31).toUInt32).toInt32)) = (x &&& (((-2147483648 : Int32).toUInt32 >>> ((own_nlz x) &&& 31).toUInt32).toInt32)))).symm, e1, rfl⟩

theorem own_hob6 : own_hob (6 : Int32) = (4 : Int32) := by decide +kernel

theorem own_dR_0 : decode prog_32_method_11_code 0 = .ok (.aload_n 0, 1) := by decide +kernel
theorem own_dR_1 : decode prog_32_method_11_code 1 = .ok (.getfield 84, 3) := by decide +kernel
theorem own_dR_4 : decode prog_32_method_11_code 4 = .ok (.ifnull 16, 3) := by decide +kernel
theorem own_dR_20 : decode prog_32_method_11_code 20 = .ok (.iconst 0, 1) := by decide +kernel
theorem own_dR_21 : decode prog_32_method_11_code 21 = .ok (.ireturn, 1) := by decide +kernel
theorem own_pn_own_rmR : plainFor (⟨"com/example/load_across_peers/loadacrosspeers/internal/pick/WeightTree", "rises", "(I)Z"⟩ : MethodName) = true := plainFor_of_name (show plainName "com/example/load_across_peers/loadacrosspeers/internal/pick/WeightTree" = true by first | (simp [plainName, overriddenIn]; done) | decide +kernel)
set_option maxRecDepth 65536 in
set_option maxHeartbeats 40000000 in
theorem own_rmR (l : Launch) (Z : State) (a0 : Array Value) (hw : ∀ d ∈ tables_1, d.before a0 Z = true) (ws : List Jvm.Cond) (h0 : Heap) (n0 : Nat) (t w bp bs bc : Addr) (k0 k1 k2 k3 k4 k5 k6 : Int32) (HT : own_T Z h0 n0 t w bp bs bc [(.int k0), (.int k1), (.int k2), (.int k3), (.int k4), (.int k5), (.int k6)]) (i : Int32)  :
    own_C l Z (⟨"com/example/load_across_peers/loadacrosspeers/internal/pick/WeightTree", "rises", "(I)Z"⟩ : MethodName) prog_32_method_11_code 2 (some .boolean) ws ({ frames := 0, cells := 0, slots := 0, locals := 0 } : Room) #[(.ref t), (.int i)] h0 (own_Q n0 (fun v h => v = some (.int 0) ∧ h = h0)) := by
  refine own_met own_pn_own_rmR #[rv t, iv i] (fun m => by first | (simp [entryFrame, mkF, argsToLocals, Value.category]; done) | rfl) ?_
  intro p e s m below meth c s₁ hx hby hml hown hret hlk hZ hnm X0 e0
  replace X0 := own_S.of X0 (n0)
  obtain ⟨⟨hn, g_t, g_bp, g_bs, g_bc⟩, ⟨ne_t_w, ne_t_bp, ne_t_bs, ne_t_bc, ne_w_bp, ne_w_bs, ne_w_bc, ne_bp_bs, ne_bp_bc, ne_bs_bc⟩, ⟨E_t, A_w, A_bp, A_bs, A_bc⟩, ⟨F_weights, F_present, F_sums, F_counts, F_top, F_rising⟩, u1, u2, u3, F_total, F_taking, F_rc⟩ := HT
  refine own_go (mkF m 1 #[rv t, iv i] [(.ref t)]) (fun t' k => XS.aloadN X0.here hx rfl (hb hby own_dR_0) rfl rfl  k) ?_
  refine X0.getF hx hZ hown (hw _ (List.mem_of_getElem? (i := 53) rfl)) e0 F_rising (hb hby own_dR_1) ?_
  intro T1 X1 e1
  refine own_go (mkF m 20 #[rv t, iv i] []) (fun t' k => XS.ifnullYes X1.here hx rfl (pc0 := 4) (pc' := 20) rfl (hb hby own_dR_4) rfl (by decide) (by decide) k) ?_
  refine own_go (mkF m 21 #[rv t, iv i] [(.int (0 : Int32))]) (fun t' k => XS.iconst X1.here hx rfl (hb hby own_dR_20) k) ?_
  refine X1.retZ hx hlk hret (hb hby own_dR_21) ?_ (by decide) (by decide)
  exact ⟨rfl, e1⟩

theorem own_sn_WeightTree_weights_total {Z : State} {a0 : Array Value} (hw : ∀ d ∈ tables_1, d.before a0 Z = true) : Jvm.RoadKit.slotOf Z "com/example/load_across_peers/loadacrosspeers/internal/pick/WeightTree" "weights" "[J" ≠ Jvm.RoadKit.slotOf Z "com/example/load_across_peers/loadacrosspeers/internal/pick/WeightTree" "total" "J" := slot_ne (Or.inr (hw _ (List.mem_of_getElem? (i := 14) rfl))) (Or.inl (hw _ (List.mem_of_getElem? (i := 35) rfl))) (by decide) (t := (.array .long)) (t' := .long) (by decide) (by decide)
theorem own_sn_WeightTree_present_total {Z : State} {a0 : Array Value} (hw : ∀ d ∈ tables_1, d.before a0 Z = true) : Jvm.RoadKit.slotOf Z "com/example/load_across_peers/loadacrosspeers/internal/pick/WeightTree" "present" "[Z" ≠ Jvm.RoadKit.slotOf Z "com/example/load_across_peers/loadacrosspeers/internal/pick/WeightTree" "total" "J" := slot_ne (Or.inr (hw _ (List.mem_of_getElem? (i := 17) rfl))) (Or.inl (hw _ (List.mem_of_getElem? (i := 35) rfl))) (by decide) (t := (.array .boolean)) (t' := .long) (by decide) (by decide)
theorem own_sn_WeightTree_sums_total {Z : State} {a0 : Array Value} (hw : ∀ d ∈ tables_1, d.before a0 Z = true) : Jvm.RoadKit.slotOf Z "com/example/load_across_peers/loadacrosspeers/internal/pick/WeightTree" "sums" "[J" ≠ Jvm.RoadKit.slotOf Z "com/example/load_across_peers/loadacrosspeers/internal/pick/WeightTree" "total" "J" := slot_ne (Or.inr (hw _ (List.mem_of_getElem? (i := 19) rfl))) (Or.inl (hw _ (List.mem_of_getElem? (i := 35) rfl))) (by decide) (t := (.array .long)) (t' := .long) (by decide) (by decide)
theorem own_sn_WeightTree_counts_total {Z : State} {a0 : Array Value} (hw : ∀ d ∈ tables_1, d.before a0 Z = true) : Jvm.RoadKit.slotOf Z "com/example/load_across_peers/loadacrosspeers/internal/pick/WeightTree" "counts" "[I" ≠ Jvm.RoadKit.slotOf Z "com/example/load_across_peers/loadacrosspeers/internal/pick/WeightTree" "total" "J" := slot_ne (Or.inr (hw _ (List.mem_of_getElem? (i := 22) rfl))) (Or.inl (hw _ (List.mem_of_getElem? (i := 35) rfl))) (by decide) (t := (.array .int)) (t' := .long) (by decide) (by decide)
theorem own_sn_WeightTree_top_total {Z : State} {a0 : Array Value} (hw : ∀ d ∈ tables_1, d.before a0 Z = true) : Jvm.RoadKit.slotOf Z "com/example/load_across_peers/loadacrosspeers/internal/pick/WeightTree" "top" "I" ≠ Jvm.RoadKit.slotOf Z "com/example/load_across_peers/loadacrosspeers/internal/pick/WeightTree" "total" "J" := slot_ne (Or.inr (hw _ (List.mem_of_getElem? (i := 33) rfl))) (Or.inl (hw _ (List.mem_of_getElem? (i := 35) rfl))) (by decide) (t := .int) (t' := .long) (by decide) (by decide)
theorem own_sn_WeightTree_rising_total {Z : State} {a0 : Array Value} (hw : ∀ d ∈ tables_1, d.before a0 Z = true) : Jvm.RoadKit.slotOf Z "com/example/load_across_peers/loadacrosspeers/internal/pick/WeightTree" "rising" "[Z" ≠ Jvm.RoadKit.slotOf Z "com/example/load_across_peers/loadacrosspeers/internal/pick/WeightTree" "total" "J" := slot_ne (Or.inl (hw _ (List.mem_of_getElem? (i := 54) rfl))) (Or.inl (hw _ (List.mem_of_getElem? (i := 35) rfl))) (by decide) (t := (.array .boolean)) (t' := .long) (by decide) (by decide)
theorem own_sn_WeightTree_taking_total {Z : State} {a0 : Array Value} (hw : ∀ d ∈ tables_1, d.before a0 Z = true) : Jvm.RoadKit.slotOf Z "com/example/load_across_peers/loadacrosspeers/internal/pick/WeightTree" "taking" "I" ≠ Jvm.RoadKit.slotOf Z "com/example/load_across_peers/loadacrosspeers/internal/pick/WeightTree" "total" "J" := slot_ne (Or.inl (hw _ (List.mem_of_getElem? (i := 37) rfl))) (Or.inl (hw _ (List.mem_of_getElem? (i := 35) rfl))) (by decide) (t := .int) (t' := .long) (by decide) (by decide)
theorem own_sn_WeightTree_risingCount_total {Z : State} {a0 : Array Value} (hw : ∀ d ∈ tables_1, d.before a0 Z = true) : Jvm.RoadKit.slotOf Z "com/example/load_across_peers/loadacrosspeers/internal/pick/WeightTree" "risingCount" "J" ≠ Jvm.RoadKit.slotOf Z "com/example/load_across_peers/loadacrosspeers/internal/pick/WeightTree" "total" "J" := slot_ne (Or.inl (hw _ (List.mem_of_getElem? (i := 60) rfl))) (Or.inl (hw _ (List.mem_of_getElem? (i := 35) rfl))) (by decide) (t := .long) (t' := .long) (by decide) (by decide)
theorem own_sn_WeightTree_weights_taking {Z : State} {a0 : Array Value} (hw : ∀ d ∈ tables_1, d.before a0 Z = true) : Jvm.RoadKit.slotOf Z "com/example/load_across_peers/loadacrosspeers/internal/pick/WeightTree" "weights" "[J" ≠ Jvm.RoadKit.slotOf Z "com/example/load_across_peers/loadacrosspeers/internal/pick/WeightTree" "taking" "I" := slot_ne (Or.inr (hw _ (List.mem_of_getElem? (i := 14) rfl))) (Or.inl (hw _ (List.mem_of_getElem? (i := 37) rfl))) (by decide) (t := (.array .long)) (t' := .int) (by decide) (by decide)
theorem own_sn_WeightTree_present_taking {Z : State} {a0 : Array Value} (hw : ∀ d ∈ tables_1, d.before a0 Z = true) : Jvm.RoadKit.slotOf Z "com/example/load_across_peers/loadacrosspeers/internal/pick/WeightTree" "present" "[Z" ≠ Jvm.RoadKit.slotOf Z "com/example/load_across_peers/loadacrosspeers/internal/pick/WeightTree" "taking" "I" := slot_ne (Or.inr (hw _ (List.mem_of_getElem? (i := 17) rfl))) (Or.inl (hw _ (List.mem_of_getElem? (i := 37) rfl))) (by decide) (t := (.array .boolean)) (t' := .int) (by decide) (by decide)
theorem own_sn_WeightTree_sums_taking {Z : State} {a0 : Array Value} (hw : ∀ d ∈ tables_1, d.before a0 Z = true) : Jvm.RoadKit.slotOf Z "com/example/load_across_peers/loadacrosspeers/internal/pick/WeightTree" "sums" "[J" ≠ Jvm.RoadKit.slotOf Z "com/example/load_across_peers/loadacrosspeers/internal/pick/WeightTree" "taking" "I" := slot_ne (Or.inr (hw _ (List.mem_of_getElem? (i := 19) rfl))) (Or.inl (hw _ (List.mem_of_getElem? (i := 37) rfl))) (by decide) (t := (.array .long)) (t' := .int) (by decide) (by decide)
theorem own_sn_WeightTree_counts_taking {Z : State} {a0 : Array Value} (hw : ∀ d ∈ tables_1, d.before a0 Z = true) : Jvm.RoadKit.slotOf Z "com/example/load_across_peers/loadacrosspeers/internal/pick/WeightTree" "counts" "[I" ≠ Jvm.RoadKit.slotOf Z "com/example/load_across_peers/loadacrosspeers/internal/pick/WeightTree" "taking" "I" := slot_ne (Or.inr (hw _ (List.mem_of_getElem? (i := 22) rfl))) (Or.inl (hw _ (List.mem_of_getElem? (i := 37) rfl))) (by decide) (t := (.array .int)) (t' := .int) (by decide) (by decide)
theorem own_sn_WeightTree_top_taking {Z : State} {a0 : Array Value} (hw : ∀ d ∈ tables_1, d.before a0 Z = true) : Jvm.RoadKit.slotOf Z "com/example/load_across_peers/loadacrosspeers/internal/pick/WeightTree" "top" "I" ≠ Jvm.RoadKit.slotOf Z "com/example/load_across_peers/loadacrosspeers/internal/pick/WeightTree" "taking" "I" := slot_ne (Or.inr (hw _ (List.mem_of_getElem? (i := 33) rfl))) (Or.inl (hw _ (List.mem_of_getElem? (i := 37) rfl))) (by decide) (t := .int) (t' := .int) (by decide) (by decide)
theorem own_sn_WeightTree_rising_taking {Z : State} {a0 : Array Value} (hw : ∀ d ∈ tables_1, d.before a0 Z = true) : Jvm.RoadKit.slotOf Z "com/example/load_across_peers/loadacrosspeers/internal/pick/WeightTree" "rising" "[Z" ≠ Jvm.RoadKit.slotOf Z "com/example/load_across_peers/loadacrosspeers/internal/pick/WeightTree" "taking" "I" := slot_ne (Or.inl (hw _ (List.mem_of_getElem? (i := 54) rfl))) (Or.inl (hw _ (List.mem_of_getElem? (i := 37) rfl))) (by decide) (t := (.array .boolean)) (t' := .int) (by decide) (by decide)
theorem own_sn_WeightTree_total_taking {Z : State} {a0 : Array Value} (hw : ∀ d ∈ tables_1, d.before a0 Z = true) : Jvm.RoadKit.slotOf Z "com/example/load_across_peers/loadacrosspeers/internal/pick/WeightTree" "total" "J" ≠ Jvm.RoadKit.slotOf Z "com/example/load_across_peers/loadacrosspeers/internal/pick/WeightTree" "taking" "I" := slot_ne (Or.inl (hw _ (List.mem_of_getElem? (i := 35) rfl))) (Or.inl (hw _ (List.mem_of_getElem? (i := 37) rfl))) (by decide) (t := .long) (t' := .int) (by decide) (by decide)
theorem own_sn_WeightTree_risingCount_taking {Z : State} {a0 : Array Value} (hw : ∀ d ∈ tables_1, d.before a0 Z = true) : Jvm.RoadKit.slotOf Z "com/example/load_across_peers/loadacrosspeers/internal/pick/WeightTree" "risingCount" "J" ≠ Jvm.RoadKit.slotOf Z "com/example/load_across_peers/loadacrosspeers/internal/pick/WeightTree" "taking" "I" := slot_ne (Or.inl (hw _ (List.mem_of_getElem? (i := 60) rfl))) (Or.inl (hw _ (List.mem_of_getElem? (i := 37) rfl))) (by decide) (t := .long) (t' := .int) (by decide) (by decide)
theorem own_sn_WeightTree_weights_risingCount {Z : State} {a0 : Array Value} (hw : ∀ d ∈ tables_1, d.before a0 Z = true) : Jvm.RoadKit.slotOf Z "com/example/load_across_peers/loadacrosspeers/internal/pick/WeightTree" "weights" "[J" ≠ Jvm.RoadKit.slotOf Z "com/example/load_across_peers/loadacrosspeers/internal/pick/WeightTree" "risingCount" "J" := slot_ne (Or.inr (hw _ (List.mem_of_getElem? (i := 14) rfl))) (Or.inl (hw _ (List.mem_of_getElem? (i := 60) rfl))) (by decide) (t := (.array .long)) (t' := .long) (by decide) (by decide)
theorem own_sn_WeightTree_present_risingCount {Z : State} {a0 : Array Value} (hw : ∀ d ∈ tables_1, d.before a0 Z = true) : Jvm.RoadKit.slotOf Z "com/example/load_across_peers/loadacrosspeers/internal/pick/WeightTree" "present" "[Z" ≠ Jvm.RoadKit.slotOf Z "com/example/load_across_peers/loadacrosspeers/internal/pick/WeightTree" "risingCount" "J" := slot_ne (Or.inr (hw _ (List.mem_of_getElem? (i := 17) rfl))) (Or.inl (hw _ (List.mem_of_getElem? (i := 60) rfl))) (by decide) (t := (.array .boolean)) (t' := .long) (by decide) (by decide)
theorem own_sn_WeightTree_sums_risingCount {Z : State} {a0 : Array Value} (hw : ∀ d ∈ tables_1, d.before a0 Z = true) : Jvm.RoadKit.slotOf Z "com/example/load_across_peers/loadacrosspeers/internal/pick/WeightTree" "sums" "[J" ≠ Jvm.RoadKit.slotOf Z "com/example/load_across_peers/loadacrosspeers/internal/pick/WeightTree" "risingCount" "J" := slot_ne (Or.inr (hw _ (List.mem_of_getElem? (i := 19) rfl))) (Or.inl (hw _ (List.mem_of_getElem? (i := 60) rfl))) (by decide) (t := (.array .long)) (t' := .long) (by decide) (by decide)
theorem own_sn_WeightTree_counts_risingCount {Z : State} {a0 : Array Value} (hw : ∀ d ∈ tables_1, d.before a0 Z = true) : Jvm.RoadKit.slotOf Z "com/example/load_across_peers/loadacrosspeers/internal/pick/WeightTree" "counts" "[I" ≠ Jvm.RoadKit.slotOf Z "com/example/load_across_peers/loadacrosspeers/internal/pick/WeightTree" "risingCount" "J" := slot_ne (Or.inr (hw _ (List.mem_of_getElem? (i := 22) rfl))) (Or.inl (hw _ (List.mem_of_getElem? (i := 60) rfl))) (by decide) (t := (.array .int)) (t' := .long) (by decide) (by decide)
theorem own_sn_WeightTree_top_risingCount {Z : State} {a0 : Array Value} (hw : ∀ d ∈ tables_1, d.before a0 Z = true) : Jvm.RoadKit.slotOf Z "com/example/load_across_peers/loadacrosspeers/internal/pick/WeightTree" "top" "I" ≠ Jvm.RoadKit.slotOf Z "com/example/load_across_peers/loadacrosspeers/internal/pick/WeightTree" "risingCount" "J" := slot_ne (Or.inr (hw _ (List.mem_of_getElem? (i := 33) rfl))) (Or.inl (hw _ (List.mem_of_getElem? (i := 60) rfl))) (by decide) (t := .int) (t' := .long) (by decide) (by decide)
theorem own_sn_WeightTree_rising_risingCount {Z : State} {a0 : Array Value} (hw : ∀ d ∈ tables_1, d.before a0 Z = true) : Jvm.RoadKit.slotOf Z "com/example/load_across_peers/loadacrosspeers/internal/pick/WeightTree" "rising" "[Z" ≠ Jvm.RoadKit.slotOf Z "com/example/load_across_peers/loadacrosspeers/internal/pick/WeightTree" "risingCount" "J" := slot_ne (Or.inl (hw _ (List.mem_of_getElem? (i := 54) rfl))) (Or.inl (hw _ (List.mem_of_getElem? (i := 60) rfl))) (by decide) (t := (.array .boolean)) (t' := .long) (by decide) (by decide)
theorem own_sn_WeightTree_total_risingCount {Z : State} {a0 : Array Value} (hw : ∀ d ∈ tables_1, d.before a0 Z = true) : Jvm.RoadKit.slotOf Z "com/example/load_across_peers/loadacrosspeers/internal/pick/WeightTree" "total" "J" ≠ Jvm.RoadKit.slotOf Z "com/example/load_across_peers/loadacrosspeers/internal/pick/WeightTree" "risingCount" "J" := slot_ne (Or.inl (hw _ (List.mem_of_getElem? (i := 35) rfl))) (Or.inl (hw _ (List.mem_of_getElem? (i := 60) rfl))) (by decide) (t := .long) (t' := .long) (by decide) (by decide)
theorem own_sn_WeightTree_taking_risingCount {Z : State} {a0 : Array Value} (hw : ∀ d ∈ tables_1, d.before a0 Z = true) : Jvm.RoadKit.slotOf Z "com/example/load_across_peers/loadacrosspeers/internal/pick/WeightTree" "taking" "I" ≠ Jvm.RoadKit.slotOf Z "com/example/load_across_peers/loadacrosspeers/internal/pick/WeightTree" "risingCount" "J" := slot_ne (Or.inl (hw _ (List.mem_of_getElem? (i := 37) rfl))) (Or.inl (hw _ (List.mem_of_getElem? (i := 60) rfl))) (by decide) (t := .int) (t' := .long) (by decide) (by decide)
theorem own_dA_0 : decode prog_32_method_13_code 0 = .ok (.aload_n 0, 1) := by decide +kernel
theorem own_dA_1 : decode prog_32_method_13_code 1 = .ok (.dup, 1) := by decide +kernel
theorem own_dA_2 : decode prog_32_method_13_code 2 = .ok (.getfield 43, 3) := by decide +kernel
theorem own_dA_5 : decode prog_32_method_13_code 5 = .ok (.lload_n 2, 1) := by decide +kernel
theorem own_dA_6 : decode prog_32_method_13_code 6 = .ok (.ladd, 1) := by decide +kernel
theorem own_dA_7 : decode prog_32_method_13_code 7 = .ok (.putfield 43, 3) := by decide +kernel
theorem own_dA_10 : decode prog_32_method_13_code 10 = .ok (.aload_n 0, 1) := by decide +kernel
theorem own_dA_11 : decode prog_32_method_13_code 11 = .ok (.dup, 1) := by decide +kernel
theorem own_dA_12 : decode prog_32_method_13_code 12 = .ok (.getfield 46, 3) := by decide +kernel
theorem own_dA_15 : decode prog_32_method_13_code 15 = .ok (.iload 4, 2) := by decide +kernel
theorem own_dA_17 : decode prog_32_method_13_code 17 = .ok (.iadd, 1) := by decide +kernel
theorem own_dA_18 : decode prog_32_method_13_code 18 = .ok (.putfield 46, 3) := by decide +kernel
theorem own_dA_21 : decode prog_32_method_13_code 21 = .ok (.aload_n 0, 1) := by decide +kernel
theorem own_dA_22 : decode prog_32_method_13_code 22 = .ok (.dup, 1) := by decide +kernel
theorem own_dA_23 : decode prog_32_method_13_code 23 = .ok (.getfield 49, 3) := by decide +kernel
theorem own_dA_26 : decode prog_32_method_13_code 26 = .ok (.lload 5, 2) := by decide +kernel
theorem own_dA_28 : decode prog_32_method_13_code 28 = .ok (.ladd, 1) := by decide +kernel
theorem own_dA_29 : decode prog_32_method_13_code 29 = .ok (.putfield 49, 3) := by decide +kernel
theorem own_dA_32 : decode prog_32_method_13_code 32 = .ok (.iload_n 1, 1) := by decide +kernel
theorem own_dA_33 : decode prog_32_method_13_code 33 = .ok (.iconst 1, 1) := by decide +kernel
theorem own_dA_34 : decode prog_32_method_13_code 34 = .ok (.iadd, 1) := by decide +kernel
theorem own_dA_35 : decode prog_32_method_13_code 35 = .ok (.istore 7, 2) := by decide +kernel
theorem own_dA_37 : decode prog_32_method_13_code 37 = .ok (.iload 7, 2) := by decide +kernel
theorem own_dA_39 : decode prog_32_method_13_code 39 = .ok (.aload_n 0, 1) := by decide +kernel
theorem own_dA_40 : decode prog_32_method_13_code 40 = .ok (.getfield 26, 3) := by decide +kernel
theorem own_dA_43 : decode prog_32_method_13_code 43 = .ok (.arraylength, 1) := by decide +kernel
theorem own_dA_44 : decode prog_32_method_13_code 44 = .ok (.if_icmp .ge 59, 3) := by decide +kernel
theorem own_dA_47 : decode prog_32_method_13_code 47 = .ok (.aload_n 0, 1) := by decide +kernel
theorem own_dA_48 : decode prog_32_method_13_code 48 = .ok (.getfield 26, 3) := by decide +kernel
theorem own_dA_51 : decode prog_32_method_13_code 51 = .ok (.iload 7, 2) := by decide +kernel
theorem own_dA_53 : decode prog_32_method_13_code 53 = .ok (.dup2, 1) := by decide +kernel
theorem own_dA_54 : decode prog_32_method_13_code 54 = .ok (.laload, 1) := by decide +kernel
theorem own_dA_55 : decode prog_32_method_13_code 55 = .ok (.lload_n 2, 1) := by decide +kernel
theorem own_dA_56 : decode prog_32_method_13_code 56 = .ok (.ladd, 1) := by decide +kernel
theorem own_dA_57 : decode prog_32_method_13_code 57 = .ok (.lastore, 1) := by decide +kernel
theorem own_dA_58 : decode prog_32_method_13_code 58 = .ok (.aload_n 0, 1) := by decide +kernel
theorem own_dA_59 : decode prog_32_method_13_code 59 = .ok (.getfield 29, 3) := by decide +kernel
theorem own_dA_62 : decode prog_32_method_13_code 62 = .ok (.iload 7, 2) := by decide +kernel
theorem own_dA_64 : decode prog_32_method_13_code 64 = .ok (.dup2, 1) := by decide +kernel
theorem own_dA_65 : decode prog_32_method_13_code 65 = .ok (.iaload, 1) := by decide +kernel
theorem own_dA_66 : decode prog_32_method_13_code 66 = .ok (.iload 4, 2) := by decide +kernel
theorem own_dA_68 : decode prog_32_method_13_code 68 = .ok (.iadd, 1) := by decide +kernel
theorem own_dA_69 : decode prog_32_method_13_code 69 = .ok (.iastore, 1) := by decide +kernel
theorem own_dA_70 : decode prog_32_method_13_code 70 = .ok (.lload 5, 2) := by decide +kernel
theorem own_dA_72 : decode prog_32_method_13_code 72 = .ok (.lconst 0, 1) := by decide +kernel
theorem own_dA_73 : decode prog_32_method_13_code 73 = .ok (.lcmp, 1) := by decide +kernel
theorem own_dA_74 : decode prog_32_method_13_code 74 = .ok (.ifCond .eq 15, 3) := by decide +kernel
theorem own_dA_89 : decode prog_32_method_13_code 89 = .ok (.iload 7, 2) := by decide +kernel
theorem own_dA_91 : decode prog_32_method_13_code 91 = .ok (.iload 7, 2) := by decide +kernel
theorem own_dA_93 : decode prog_32_method_13_code 93 = .ok (.iload 7, 2) := by decide +kernel
theorem own_dA_95 : decode prog_32_method_13_code 95 = .ok (.ineg, 1) := by decide +kernel
theorem own_dA_96 : decode prog_32_method_13_code 96 = .ok (.iand, 1) := by decide +kernel
theorem own_dA_97 : decode prog_32_method_13_code 97 = .ok (.iadd, 1) := by decide +kernel
theorem own_dA_98 : decode prog_32_method_13_code 98 = .ok (.istore 7, 2) := by decide +kernel
theorem own_dA_100 : decode prog_32_method_13_code 100 = .ok (.goto (-63), 3) := by decide +kernel
theorem own_dA_103 : decode prog_32_method_13_code 103 = .ok (.return_, 1) := by decide +kernel
theorem own_pn_own_rmA0 : plainFor (⟨"com/example/load_across_peers/loadacrosspeers/internal/pick/WeightTree", "add", "(IJIJ)V"⟩ : MethodName) = true := plainFor_of_name (show plainName "com/example/load_across_peers/loadacrosspeers/internal/pick/WeightTree" = true by first | (simp [plainName, overriddenIn]; done) | decide +kernel)
set_option maxRecDepth 65536 in
set_option maxHeartbeats 40000000 in
theorem own_rmA0 (l : Launch) (Z : State) (a0 : Array Value) (hw : ∀ d ∈ tables_1, d.before a0 Z = true) (ws : List Jvm.Cond) (h0 : Heap) (n0 : Nat) (t w bp bs bc : Addr) (k0 k1 k2 k3 k4 k5 k6 : Int32) (HT : own_T Z h0 n0 t w bp bs bc [(.int k0), (.int k1), (.int k2), (.int k3), (.int k4), (.int k5), (.int k6)]) (x : Int64)  :
    own_C l Z (⟨"com/example/load_across_peers/loadacrosspeers/internal/pick/WeightTree", "add", "(IJIJ)V"⟩ : MethodName) prog_32_method_13_code 8 none ws ({ frames := 0, cells := 0, slots := 0, locals := 0 } : Room) #[(.ref t), (.int (0 : Int32)), (.long x), (.int (-1 : Int32)), (.long (0 : Int64))] h0 (own_Q n0 (fun v h => v = none ∧ own_T Z h n0 t w bp bs bc [(.int k0), (.int (k1 + (-1 : Int32))), (.int (k2 + (-1 : Int32))), (.int k3), (.int (k4 + (-1 : Int32))), (.int k5), (.int k6)])) := by
  refine own_met own_pn_own_rmA0 #[rv t, iv (0 : Int32), jv x, .second, iv (-1 : Int32), jv (0 : Int64), .second, .unset] (fun m => by first | (simp [entryFrame, mkF, argsToLocals, Value.category]; done) | rfl) ?_
  intro p e s m below meth c s₁ hx hby hml hown hret hlk hZ hnm X0 e0
  replace X0 := own_S.of X0 (n0)
  obtain ⟨⟨hn, g_t, g_bp, g_bs, g_bc⟩, ⟨ne_t_w, ne_t_bp, ne_t_bs, ne_t_bc, ne_w_bp, ne_w_bs, ne_w_bc, ne_bp_bs, ne_bp_bc, ne_bs_bc⟩, ⟨E_t, A_w, A_bp, A_bs, A_bc⟩, ⟨F_weights, F_present, F_sums, F_counts, F_top, F_rising⟩, u1, u2, u3, F_total, F_taking, F_rc⟩ := HT
  refine own_go (mkF m 1 #[rv t, iv (0 : Int32), jv x, .second, iv (-1 : Int32), jv (0 : Int64), .second, .unset] [(.ref t)]) (fun t' k => XS.aloadN X0.here hx rfl (hb hby own_dA_0) rfl rfl  k) ?_
  refine own_go (mkF m 2 #[rv t, iv (0 : Int32), jv x, .second, iv (-1 : Int32), jv (0 : Int64), .second, .unset] [(.ref t), (.ref t)]) (fun t' k => XS.dup X0.here hx rfl (hb hby own_dA_1) rfl rfl k) ?_
  refine X0.getF hx hZ hown (hw _ (List.mem_of_getElem? (i := 34) rfl)) e0 F_total (hb hby own_dA_2) ?_
  intro T1 X1 e1
  refine own_go (mkF m 6 #[rv t, iv (0 : Int32), jv x, .second, iv (-1 : Int32), jv (0 : Int64), .second, .unset] [(.long x), (.long u1), (.ref t)]) (fun t' k => XS.lloadN X1.here hx rfl (hb hby own_dA_5) rfl  k) ?_
  refine own_go (mkF m 7 #[rv t, iv (0 : Int32), jv x, .second, iv (-1 : Int32), jv (0 : Int64), .second, .unset] [(.long (u1 + x)), (.ref t)]) (fun t' k => XS.ladd X1.here hx rfl (hb hby own_dA_6) rfl k) ?_
  refine X1.putF hx hZ hown (hw _ (List.mem_of_getElem? (i := 34) rfl)) e1 F_total E_t g_t (Or.inl (hw _ (List.mem_of_getElem? (i := 35) rfl))) (hw _ (List.mem_of_getElem? (i := 2) rfl)) (ty := .long) (by decide) rfl rfl (hb hby own_dA_7) ?_
  intro T2 h2 X2 e2 W2
  replace E_t := E_t.wr W2
  replace A_w := A_w.other W2 (Ne.symm ne_t_w)
  replace A_bp := A_bp.other W2 (Ne.symm ne_t_bp)
  replace A_bs := A_bs.other W2 (Ne.symm ne_t_bs)
  replace A_bc := A_bc.other W2 (Ne.symm ne_t_bc)
  replace F_weights := F_weights.other W2 (Or.inr (own_sn_WeightTree_weights_total hw))
  replace F_present := F_present.other W2 (Or.inr (own_sn_WeightTree_present_total hw))
  replace F_sums := F_sums.other W2 (Or.inr (own_sn_WeightTree_sums_total hw))
  replace F_counts := F_counts.other W2 (Or.inr (own_sn_WeightTree_counts_total hw))
  replace F_top := F_top.other W2 (Or.inr (own_sn_WeightTree_top_total hw))
  replace F_rising := F_rising.other W2 (Or.inr (own_sn_WeightTree_rising_total hw))
  replace F_total := F_total.same W2
  replace F_taking := F_taking.other W2 (Or.inr (own_sn_WeightTree_taking_total hw))
  replace F_rc := F_rc.other W2 (Or.inr (own_sn_WeightTree_risingCount_total hw))
  replace hn := Nat.le_trans hn (Keep.of_wr W2).1
  clear W2 X1 e1
  generalize (u1 + x) = ug2 at F_total
  refine own_go (mkF m 11 #[rv t, iv (0 : Int32), jv x, .second, iv (-1 : Int32), jv (0 : Int64), .second, .unset] [(.ref t)]) (fun t' k => XS.aloadN X2.here hx rfl (hb hby own_dA_10) rfl rfl  k) ?_
  refine own_go (mkF m 12 #[rv t, iv (0 : Int32), jv x, .second, iv (-1 : Int32), jv (0 : Int64), .second, .unset] [(.ref t), (.ref t)]) (fun t' k => XS.dup X2.here hx rfl (hb hby own_dA_11) rfl rfl k) ?_
  refine X2.getF hx hZ hown (hw _ (List.mem_of_getElem? (i := 36) rfl)) e2 F_taking (hb hby own_dA_12) ?_
  intro T3 X3 e3
  refine own_go (mkF m 17 #[rv t, iv (0 : Int32), jv x, .second, iv (-1 : Int32), jv (0 : Int64), .second, .unset] [(.int (-1 : Int32)), (.int u2), (.ref t)]) (fun t' k => XS.iload X3.here hx rfl (hb hby own_dA_15) rfl  k) ?_
  refine own_go (mkF m 18 #[rv t, iv (0 : Int32), jv x, .second, iv (-1 : Int32), jv (0 : Int64), .second, .unset] [(.int (u2 + (-1 : Int32))), (.ref t)]) (fun t' k => XS.iadd X3.here hx rfl (hb hby own_dA_17) rfl k) ?_
  refine X3.putF hx hZ hown (hw _ (List.mem_of_getElem? (i := 36) rfl)) e3 F_taking E_t g_t (Or.inl (hw _ (List.mem_of_getElem? (i := 37) rfl))) (hw _ (List.mem_of_getElem? (i := 2) rfl)) (ty := .int) (by decide) rfl rfl (hb hby own_dA_18) ?_
  intro T4 h4 X4 e4 W4
  replace E_t := E_t.wr W4
  replace A_w := A_w.other W4 (Ne.symm ne_t_w)
  replace A_bp := A_bp.other W4 (Ne.symm ne_t_bp)
  replace A_bs := A_bs.other W4 (Ne.symm ne_t_bs)
  replace A_bc := A_bc.other W4 (Ne.symm ne_t_bc)
  replace F_weights := F_weights.other W4 (Or.inr (own_sn_WeightTree_weights_taking hw))
  replace F_present := F_present.other W4 (Or.inr (own_sn_WeightTree_present_taking hw))
  replace F_sums := F_sums.other W4 (Or.inr (own_sn_WeightTree_sums_taking hw))
  replace F_counts := F_counts.other W4 (Or.inr (own_sn_WeightTree_counts_taking hw))
  replace F_top := F_top.other W4 (Or.inr (own_sn_WeightTree_top_taking hw))
  replace F_rising := F_rising.other W4 (Or.inr (own_sn_WeightTree_rising_taking hw))
  replace F_total := F_total.other W4 (Or.inr (own_sn_WeightTree_total_taking hw))
  replace F_taking := F_taking.same W4
  replace F_rc := F_rc.other W4 (Or.inr (own_sn_WeightTree_risingCount_taking hw))
  replace hn := Nat.le_trans hn (Keep.of_wr W4).1
  clear W4 X3 e3
  generalize (u2 + (-1 : Int32)) = ug4 at F_taking
  refine own_go (mkF m 22 #[rv t, iv (0 : Int32), jv x, .second, iv (-1 : Int32), jv (0 : Int64), .second, .unset] [(.ref t)]) (fun t' k => XS.aloadN X4.here hx rfl (hb hby own_dA_21) rfl rfl  k) ?_
  refine own_go (mkF m 23 #[rv t, iv (0 : Int32), jv x, .second, iv (-1 : Int32), jv (0 : Int64), .second, .unset] [(.ref t), (.ref t)]) (fun t' k => XS.dup X4.here hx rfl (hb hby own_dA_22) rfl rfl k) ?_
  refine X4.getF hx hZ hown (hw _ (List.mem_of_getElem? (i := 59) rfl)) e4 F_rc (hb hby own_dA_23) ?_
  intro T5 X5 e5
  refine own_go (mkF m 28 #[rv t, iv (0 : Int32), jv x, .second, iv (-1 : Int32), jv (0 : Int64), .second, .unset] [(.long (0 : Int64)), (.long u3), (.ref t)]) (fun t' k => XS.lload X5.here hx rfl (hb hby own_dA_26) rfl  k) ?_
  refine own_go (mkF m 29 #[rv t, iv (0 : Int32), jv x, .second, iv (-1 : Int32), jv (0 : Int64), .second, .unset] [(.long (u3 + (0 : Int64))), (.ref t)]) (fun t' k => XS.ladd X5.here hx rfl (hb hby own_dA_28) rfl k) ?_
  refine X5.putF hx hZ hown (hw _ (List.mem_of_getElem? (i := 59) rfl)) e5 F_rc E_t g_t (Or.inl (hw _ (List.mem_of_getElem? (i := 60) rfl))) (hw _ (List.mem_of_getElem? (i := 2) rfl)) (ty := .long) (by decide) rfl rfl (hb hby own_dA_29) ?_
  intro T6 h6 X6 e6 W6
  replace E_t := E_t.wr W6
  replace A_w := A_w.other W6 (Ne.symm ne_t_w)
  replace A_bp := A_bp.other W6 (Ne.symm ne_t_bp)
  replace A_bs := A_bs.other W6 (Ne.symm ne_t_bs)
  replace A_bc := A_bc.other W6 (Ne.symm ne_t_bc)
  replace F_weights := F_weights.other W6 (Or.inr (own_sn_WeightTree_weights_risingCount hw))
  replace F_present := F_present.other W6 (Or.inr (own_sn_WeightTree_present_risingCount hw))
  replace F_sums := F_sums.other W6 (Or.inr (own_sn_WeightTree_sums_risingCount hw))
  replace F_counts := F_counts.other W6 (Or.inr (own_sn_WeightTree_counts_risingCount hw))
  replace F_top := F_top.other W6 (Or.inr (own_sn_WeightTree_top_risingCount hw))
  replace F_rising := F_rising.other W6 (Or.inr (own_sn_WeightTree_rising_risingCount hw))
  replace F_total := F_total.other W6 (Or.inr (own_sn_WeightTree_total_risingCount hw))
  replace F_taking := F_taking.other W6 (Or.inr (own_sn_WeightTree_taking_risingCount hw))
  replace F_rc := F_rc.same W6
  replace hn := Nat.le_trans hn (Keep.of_wr W6).1
  clear W6 X5 e5
  generalize (u3 + (0 : Int64)) = ug6 at F_rc
  refine own_go (mkF m 33 #[rv t, iv (0 : Int32), jv x, .second, iv (-1 : Int32), jv (0 : Int64), .second, .unset] [(.int (0 : Int32))]) (fun t' k => XS.iloadN X6.here hx rfl (hb hby own_dA_32) rfl  k) ?_
  refine own_go (mkF m 34 #[rv t, iv (0 : Int32), jv x, .second, iv (-1 : Int32), jv (0 : Int64), .second, .unset] [(.int (1 : Int32)), (.int (0 : Int32))]) (fun t' k => XS.iconst X6.here hx rfl (hb hby own_dA_33) k) ?_
  refine own_go (mkF m 35 #[rv t, iv (0 : Int32), jv x, .second, iv (-1 : Int32), jv (0 : Int64), .second, .unset] [(.int (1 : Int32))]) (fun t' k => XS.iadd X6.here hx rfl (hb hby own_dA_34) rfl k) ?_
  refine own_go (mkF m 37 #[rv t, iv (0 : Int32), jv x, .second, iv (-1 : Int32), jv (0 : Int64), .second, iv (1 : Int32)] []) (fun t' k => XS.istore X6.here hx rfl (hb hby own_dA_35) rfl (l' := #[rv t, iv (0 : Int32), jv x, .second, iv (-1 : Int32), jv (0 : Int64), .second, iv (1 : Int32)]) rfl k) ?_
  refine own_go (mkF m 39 #[rv t, iv (0 : Int32), jv x, .second, iv (-1 : Int32), jv (0 : Int64), .second, iv (1 : Int32)] [(.int (1 : Int32))]) (fun t' k => XS.iload X6.here hx rfl (hb hby own_dA_37) rfl  k) ?_
  refine own_go (mkF m 40 #[rv t, iv (0 : Int32), jv x, .second, iv (-1 : Int32), jv (0 : Int64), .second, iv (1 : Int32)] [(.ref t), (.int (1 : Int32))]) (fun t' k => XS.aloadN X6.here hx rfl (hb hby own_dA_39) rfl rfl  k) ?_
  refine X6.getF hx hZ hown (hw _ (List.mem_of_getElem? (i := 18) rfl)) e6 F_sums (hb hby own_dA_40) ?_
  intro T7 X7 e7
  refine X7.aleno hx hZ e7 A_bs (hb hby own_dA_43) ?_
  show own_G p e below s _ _ _ T7 (mkF m 44 #[rv t, iv (0 : Int32), jv x, .second, iv (-1 : Int32), jv (0 : Int64), .second, iv (1 : Int32)] [(.int (7 : Int32)), (.int (1 : Int32))])
  refine own_go (mkF m 47 #[rv t, iv (0 : Int32), jv x, .second, iv (-1 : Int32), jv (0 : Int64), .second, iv (1 : Int32)] []) (fun t' k => XS.icmpNo X7.here hx rfl (hb hby own_dA_44) rfl (tlt (by decide)).2.1 k) ?_
  refine own_go (mkF m 48 #[rv t, iv (0 : Int32), jv x, .second, iv (-1 : Int32), jv (0 : Int64), .second, iv (1 : Int32)] [(.ref t)]) (fun t' k => XS.aloadN X7.here hx rfl (hb hby own_dA_47) rfl rfl  k) ?_
  refine X7.getF hx hZ hown (hw _ (List.mem_of_getElem? (i := 18) rfl)) e7 F_sums (hb hby own_dA_48) ?_
  intro T8 X8 e8
  refine own_go (mkF m 53 #[rv t, iv (0 : Int32), jv x, .second, iv (-1 : Int32), jv (0 : Int64), .second, iv (1 : Int32)] [(.int (1 : Int32)), (.ref bs)]) (fun t' k => XS.iload X8.here hx rfl (hb hby own_dA_51) rfl  k) ?_
  refine own_go (mkF m 54 #[rv t, iv (0 : Int32), jv x, .second, iv (-1 : Int32), jv (0 : Int64), .second, iv (1 : Int32)] [(.int (1 : Int32)), (.ref bs), (.int (1 : Int32)), (.ref bs)]) (fun t' k => Jvm.Free.XT.dup2 X8.here hx rfl (hb hby own_dA_53) rfl rfl rfl k) ?_
  refine X8.ldJo hx hZ e8 A_bs 1 (by decide) (by decide) (hb hby own_dA_54) ?_
  rintro _ ⟨y9, rfl⟩
  refine own_go (mkF m 56 #[rv t, iv (0 : Int32), jv x, .second, iv (-1 : Int32), jv (0 : Int64), .second, iv (1 : Int32)] [(.long x), (.long y9), (.int (1 : Int32)), (.ref bs)]) (fun t' k => XS.lloadN X8.here hx rfl (hb hby own_dA_55) rfl  k) ?_
  refine own_go (mkF m 57 #[rv t, iv (0 : Int32), jv x, .second, iv (-1 : Int32), jv (0 : Int64), .second, iv (1 : Int32)] [(.long (y9 + x)), (.int (1 : Int32)), (.ref bs)]) (fun t' k => XS.ladd X8.here hx rfl (hb hby own_dA_56) rfl k) ?_
  refine X8.stJo hx hZ e8 A_bs g_bs 1 (by decide) (by decide) ⟨_, rfl⟩ (hb hby own_dA_57) ?_
  intro T10 h10 X10 e10 W10 A10
  replace A_bs := A10
  replace E_t := E_t.wr W10
  replace A_w := A_w.other W10 ne_w_bs
  replace A_bp := A_bp.other W10 ne_bp_bs
  replace A_bc := A_bc.other W10 (Ne.symm ne_bs_bc)
  replace F_weights := F_weights.other W10 (Or.inl ne_t_bs)
  replace F_present := F_present.other W10 (Or.inl ne_t_bs)
  replace F_sums := F_sums.other W10 (Or.inl ne_t_bs)
  replace F_counts := F_counts.other W10 (Or.inl ne_t_bs)
  replace F_top := F_top.other W10 (Or.inl ne_t_bs)
  replace F_rising := F_rising.other W10 (Or.inl ne_t_bs)
  replace F_total := F_total.other W10 (Or.inl ne_t_bs)
  replace F_taking := F_taking.other W10 (Or.inl ne_t_bs)
  replace F_rc := F_rc.other W10 (Or.inl ne_t_bs)
  replace hn := Nat.le_trans hn (Keep.of_wr W10).1
  clear W10 X8 e8
  refine own_go (mkF m 59 #[rv t, iv (0 : Int32), jv x, .second, iv (-1 : Int32), jv (0 : Int64), .second, iv (1 : Int32)] [(.ref t)]) (fun t' k => XS.aloadN X10.here hx rfl (hb hby own_dA_58) rfl rfl  k) ?_
  refine X10.getF hx hZ hown (hw _ (List.mem_of_getElem? (i := 21) rfl)) e10 F_counts (hb hby own_dA_59) ?_
  intro T11 X11 e11
  refine own_go (mkF m 64 #[rv t, iv (0 : Int32), jv x, .second, iv (-1 : Int32), jv (0 : Int64), .second, iv (1 : Int32)] [(.int (1 : Int32)), (.ref bc)]) (fun t' k => XS.iload X11.here hx rfl (hb hby own_dA_62) rfl  k) ?_
  refine own_go (mkF m 65 #[rv t, iv (0 : Int32), jv x, .second, iv (-1 : Int32), jv (0 : Int64), .second, iv (1 : Int32)] [(.int (1 : Int32)), (.ref bc), (.int (1 : Int32)), (.ref bc)]) (fun t' k => Jvm.Free.XT.dup2 X11.here hx rfl (hb hby own_dA_64) rfl rfl rfl k) ?_
  refine X11.ldI hx hZ e11 A_bc (v := (.int k1)) 1 (by decide) rfl (hb hby own_dA_65) ?_
  refine own_go (mkF m 68 #[rv t, iv (0 : Int32), jv x, .second, iv (-1 : Int32), jv (0 : Int64), .second, iv (1 : Int32)] [(.int (-1 : Int32)), (.int k1), (.int (1 : Int32)), (.ref bc)]) (fun t' k => XS.iload X11.here hx rfl (hb hby own_dA_66) rfl  k) ?_
  refine own_go (mkF m 69 #[rv t, iv (0 : Int32), jv x, .second, iv (-1 : Int32), jv (0 : Int64), .second, iv (1 : Int32)] [(.int (k1 + (-1 : Int32))), (.int (1 : Int32)), (.ref bc)]) (fun t' k => XS.iadd X11.here hx rfl (hb hby own_dA_68) rfl k) ?_
  refine X11.stI hx hZ e11 A_bc g_bc 1 (by decide) (Nat.le_of_ble_eq_true rfl) (hb hby own_dA_69) ?_
  intro T12 h12 X12 e12 W12 A12
  replace A_bc : own_A Z h12 .int bc [(.int k0), (.int (k1 + (-1 : Int32))), (.int k2), (.int k3), (.int k4), (.int k5), (.int k6)] := A12
  clear A12
  replace E_t := E_t.wr W12
  replace A_w := A_w.other W12 ne_w_bc
  replace A_bp := A_bp.other W12 ne_bp_bc
  replace A_bs := A_bs.other W12 ne_bs_bc
  replace F_weights := F_weights.other W12 (Or.inl ne_t_bc)
  replace F_present := F_present.other W12 (Or.inl ne_t_bc)
  replace F_sums := F_sums.other W12 (Or.inl ne_t_bc)
  replace F_counts := F_counts.other W12 (Or.inl ne_t_bc)
  replace F_top := F_top.other W12 (Or.inl ne_t_bc)
  replace F_rising := F_rising.other W12 (Or.inl ne_t_bc)
  replace F_total := F_total.other W12 (Or.inl ne_t_bc)
  replace F_taking := F_taking.other W12 (Or.inl ne_t_bc)
  replace F_rc := F_rc.other W12 (Or.inl ne_t_bc)
  replace hn := Nat.le_trans hn (Keep.of_wr W12).1
  clear W12 X11 e11
  refine own_go (mkF m 72 #[rv t, iv (0 : Int32), jv x, .second, iv (-1 : Int32), jv (0 : Int64), .second, iv (1 : Int32)] [(.long (0 : Int64))]) (fun t' k => XS.lload X12.here hx rfl (hb hby own_dA_70) rfl  k) ?_
  refine own_go (mkF m 73 #[rv t, iv (0 : Int32), jv x, .second, iv (-1 : Int32), jv (0 : Int64), .second, iv (1 : Int32)] [(.long (0 : Int64)), (.long (0 : Int64))]) (fun t' k => XS.lconst X12.here hx rfl (hb hby own_dA_72) k) ?_
  refine own_go (mkF m 74 #[rv t, iv (0 : Int32), jv x, .second, iv (-1 : Int32), jv (0 : Int64), .second, iv (1 : Int32)] [(.int (lcmpW (0 : Int64) (0 : Int64)))]) (fun t' k => XS.lcmp X12.here hx rfl (hb hby own_dA_73) rfl k) ?_
  refine own_go (mkF m 89 #[rv t, iv (0 : Int32), jv x, .second, iv (-1 : Int32), jv (0 : Int64), .second, iv (1 : Int32)] []) (fun t' k => XS.ifYes X12.here hx rfl (pc0 := 74) (pc' := 89) rfl (hb hby own_dA_74) rfl ((if0 _ _).trans (teq ((lw_eq (0 : Int64) (0 : Int64)).mpr (by decide : (0 : Int64) = (0 : Int64)))).1) (by decide) (by decide) k) ?_
  refine own_go (mkF m 91 #[rv t, iv (0 : Int32), jv x, .second, iv (-1 : Int32), jv (0 : Int64), .second, iv (1 : Int32)] [(.int (1 : Int32))]) (fun t' k => XS.iload X12.here hx rfl (hb hby own_dA_89) rfl  k) ?_
  refine own_go (mkF m 93 #[rv t, iv (0 : Int32), jv x, .second, iv (-1 : Int32), jv (0 : Int64), .second, iv (1 : Int32)] [(.int (1 : Int32)), (.int (1 : Int32))]) (fun t' k => XS.iload X12.here hx rfl (hb hby own_dA_91) rfl  k) ?_
  refine own_go (mkF m 95 #[rv t, iv (0 : Int32), jv x, .second, iv (-1 : Int32), jv (0 : Int64), .second, iv (1 : Int32)] [(.int (1 : Int32)), (.int (1 : Int32)), (.int (1 : Int32))]) (fun t' k => XS.iload X12.here hx rfl (hb hby own_dA_93) rfl  k) ?_
  refine own_go (mkF m 96 #[rv t, iv (0 : Int32), jv x, .second, iv (-1 : Int32), jv (0 : Int64), .second, iv (1 : Int32)] [(.int (-1 : Int32)), (.int (1 : Int32)), (.int (1 : Int32))]) (fun t' k => XS.ineg X12.here hx rfl (hb hby own_dA_95) rfl k) ?_
  refine own_go (mkF m 97 #[rv t, iv (0 : Int32), jv x, .second, iv (-1 : Int32), jv (0 : Int64), .second, iv (1 : Int32)] [(.int (1 : Int32)), (.int (1 : Int32))]) (fun t' k => XS.iand X12.here hx rfl (hb hby own_dA_96) rfl k) ?_
  refine own_go (mkF m 98 #[rv t, iv (0 : Int32), jv x, .second, iv (-1 : Int32), jv (0 : Int64), .second, iv (1 : Int32)] [(.int (2 : Int32))]) (fun t' k => XS.iadd X12.here hx rfl (hb hby own_dA_97) rfl k) ?_
  refine own_go (mkF m 100 #[rv t, iv (0 : Int32), jv x, .second, iv (-1 : Int32), jv (0 : Int64), .second, iv (2 : Int32)] []) (fun t' k => XS.istore X12.here hx rfl (hb hby own_dA_98) rfl (l' := #[rv t, iv (0 : Int32), jv x, .second, iv (-1 : Int32), jv (0 : Int64), .second, iv (2 : Int32)]) rfl k) ?_
  refine own_go (mkF m 37 #[rv t, iv (0 : Int32), jv x, .second, iv (-1 : Int32), jv (0 : Int64), .second, iv (2 : Int32)] []) (fun t' k => XS.goto X12.here hx rfl (pc0 := 100) (pc' := 37) rfl (hb hby own_dA_100) (by decide) (by decide) k) ?_
  refine own_go (mkF m 39 #[rv t, iv (0 : Int32), jv x, .second, iv (-1 : Int32), jv (0 : Int64), .second, iv (2 : Int32)] [(.int (2 : Int32))]) (fun t' k => XS.iload X12.here hx rfl (hb hby own_dA_37) rfl  k) ?_
  refine own_go (mkF m 40 #[rv t, iv (0 : Int32), jv x, .second, iv (-1 : Int32), jv (0 : Int64), .second, iv (2 : Int32)] [(.ref t), (.int (2 : Int32))]) (fun t' k => XS.aloadN X12.here hx rfl (hb hby own_dA_39) rfl rfl  k) ?_
  refine X12.getF hx hZ hown (hw _ (List.mem_of_getElem? (i := 18) rfl)) e12 F_sums (hb hby own_dA_40) ?_
  intro T13 X13 e13
  refine X13.aleno hx hZ e13 A_bs (hb hby own_dA_43) ?_
  show own_G p e below s _ _ _ T13 (mkF m 44 #[rv t, iv (0 : Int32), jv x, .second, iv (-1 : Int32), jv (0 : Int64), .second, iv (2 : Int32)] [(.int (7 : Int32)), (.int (2 : Int32))])
  refine own_go (mkF m 47 #[rv t, iv (0 : Int32), jv x, .second, iv (-1 : Int32), jv (0 : Int64), .second, iv (2 : Int32)] []) (fun t' k => XS.icmpNo X13.here hx rfl (hb hby own_dA_44) rfl (tlt (by decide)).2.1 k) ?_
  refine own_go (mkF m 48 #[rv t, iv (0 : Int32), jv x, .second, iv (-1 : Int32), jv (0 : Int64), .second, iv (2 : Int32)] [(.ref t)]) (fun t' k => XS.aloadN X13.here hx rfl (hb hby own_dA_47) rfl rfl  k) ?_
  refine X13.getF hx hZ hown (hw _ (List.mem_of_getElem? (i := 18) rfl)) e13 F_sums (hb hby own_dA_48) ?_
  intro T14 X14 e14
  refine own_go (mkF m 53 #[rv t, iv (0 : Int32), jv x, .second, iv (-1 : Int32), jv (0 : Int64), .second, iv (2 : Int32)] [(.int (2 : Int32)), (.ref bs)]) (fun t' k => XS.iload X14.here hx rfl (hb hby own_dA_51) rfl  k) ?_
  refine own_go (mkF m 54 #[rv t, iv (0 : Int32), jv x, .second, iv (-1 : Int32), jv (0 : Int64), .second, iv (2 : Int32)] [(.int (2 : Int32)), (.ref bs), (.int (2 : Int32)), (.ref bs)]) (fun t' k => Jvm.Free.XT.dup2 X14.here hx rfl (hb hby own_dA_53) rfl rfl rfl k) ?_
  refine X14.ldJo hx hZ e14 A_bs 2 (by decide) (by decide) (hb hby own_dA_54) ?_
  rintro _ ⟨y15, rfl⟩
  refine own_go (mkF m 56 #[rv t, iv (0 : Int32), jv x, .second, iv (-1 : Int32), jv (0 : Int64), .second, iv (2 : Int32)] [(.long x), (.long y15), (.int (2 : Int32)), (.ref bs)]) (fun t' k => XS.lloadN X14.here hx rfl (hb hby own_dA_55) rfl  k) ?_
  refine own_go (mkF m 57 #[rv t, iv (0 : Int32), jv x, .second, iv (-1 : Int32), jv (0 : Int64), .second, iv (2 : Int32)] [(.long (y15 + x)), (.int (2 : Int32)), (.ref bs)]) (fun t' k => XS.ladd X14.here hx rfl (hb hby own_dA_56) rfl k) ?_
  refine X14.stJo hx hZ e14 A_bs g_bs 2 (by decide) (by decide) ⟨_, rfl⟩ (hb hby own_dA_57) ?_
  intro T16 h16 X16 e16 W16 A16
  replace A_bs := A16
  replace E_t := E_t.wr W16
  replace A_w := A_w.other W16 ne_w_bs
  replace A_bp := A_bp.other W16 ne_bp_bs
  replace A_bc := A_bc.other W16 (Ne.symm ne_bs_bc)
  replace F_weights := F_weights.other W16 (Or.inl ne_t_bs)
  replace F_present := F_present.other W16 (Or.inl ne_t_bs)
  replace F_sums := F_sums.other W16 (Or.inl ne_t_bs)
  replace F_counts := F_counts.other W16 (Or.inl ne_t_bs)
  replace F_top := F_top.other W16 (Or.inl ne_t_bs)
  replace F_rising := F_rising.other W16 (Or.inl ne_t_bs)
  replace F_total := F_total.other W16 (Or.inl ne_t_bs)
  replace F_taking := F_taking.other W16 (Or.inl ne_t_bs)
  replace F_rc := F_rc.other W16 (Or.inl ne_t_bs)
  replace hn := Nat.le_trans hn (Keep.of_wr W16).1
  clear W16 X14 e14
  refine own_go (mkF m 59 #[rv t, iv (0 : Int32), jv x, .second, iv (-1 : Int32), jv (0 : Int64), .second, iv (2 : Int32)] [(.ref t)]) (fun t' k => XS.aloadN X16.here hx rfl (hb hby own_dA_58) rfl rfl  k) ?_
  refine X16.getF hx hZ hown (hw _ (List.mem_of_getElem? (i := 21) rfl)) e16 F_counts (hb hby own_dA_59) ?_
  intro T17 X17 e17
  refine own_go (mkF m 64 #[rv t, iv (0 : Int32), jv x, .second, iv (-1 : Int32), jv (0 : Int64), .second, iv (2 : Int32)] [(.int (2 : Int32)), (.ref bc)]) (fun t' k => XS.iload X17.here hx rfl (hb hby own_dA_62) rfl  k) ?_
  refine own_go (mkF m 65 #[rv t, iv (0 : Int32), jv x, .second, iv (-1 : Int32), jv (0 : Int64), .second, iv (2 : Int32)] [(.int (2 : Int32)), (.ref bc), (.int (2 : Int32)), (.ref bc)]) (fun t' k => Jvm.Free.XT.dup2 X17.here hx rfl (hb hby own_dA_64) rfl rfl rfl k) ?_
  refine X17.ldI hx hZ e17 A_bc (v := (.int k2)) 2 (by decide) rfl (hb hby own_dA_65) ?_
  refine own_go (mkF m 68 #[rv t, iv (0 : Int32), jv x, .second, iv (-1 : Int32), jv (0 : Int64), .second, iv (2 : Int32)] [(.int (-1 : Int32)), (.int k2), (.int (2 : Int32)), (.ref bc)]) (fun t' k => XS.iload X17.here hx rfl (hb hby own_dA_66) rfl  k) ?_
  refine own_go (mkF m 69 #[rv t, iv (0 : Int32), jv x, .second, iv (-1 : Int32), jv (0 : Int64), .second, iv (2 : Int32)] [(.int (k2 + (-1 : Int32))), (.int (2 : Int32)), (.ref bc)]) (fun t' k => XS.iadd X17.here hx rfl (hb hby own_dA_68) rfl k) ?_
  refine X17.stI hx hZ e17 A_bc g_bc 2 (by decide) (Nat.le_of_ble_eq_true rfl) (hb hby own_dA_69) ?_
  intro T18 h18 X18 e18 W18 A18
  replace A_bc : own_A Z h18 .int bc [(.int k0), (.int (k1 + (-1 : Int32))), (.int (k2 + (-1 : Int32))), (.int k3), (.int k4), (.int k5), (.int k6)] := A18
  clear A18
  replace E_t := E_t.wr W18
  replace A_w := A_w.other W18 ne_w_bc
  replace A_bp := A_bp.other W18 ne_bp_bc
  replace A_bs := A_bs.other W18 ne_bs_bc
  replace F_weights := F_weights.other W18 (Or.inl ne_t_bc)
  replace F_present := F_present.other W18 (Or.inl ne_t_bc)
  replace F_sums := F_sums.other W18 (Or.inl ne_t_bc)
  replace F_counts := F_counts.other W18 (Or.inl ne_t_bc)
  replace F_top := F_top.other W18 (Or.inl ne_t_bc)
  replace F_rising := F_rising.other W18 (Or.inl ne_t_bc)
  replace F_total := F_total.other W18 (Or.inl ne_t_bc)
  replace F_taking := F_taking.other W18 (Or.inl ne_t_bc)
  replace F_rc := F_rc.other W18 (Or.inl ne_t_bc)
  replace hn := Nat.le_trans hn (Keep.of_wr W18).1
  clear W18 X17 e17
  refine own_go (mkF m 72 #[rv t, iv (0 : Int32), jv x, .second, iv (-1 : Int32), jv (0 : Int64), .second, iv (2 : Int32)] [(.long (0 : Int64))]) (fun t' k => XS.lload X18.here hx rfl (hb hby own_dA_70) rfl  k) ?_
  refine own_go (mkF m 73 #[rv t, iv (0 : Int32), jv x, .second, iv (-1 : Int32), jv (0 : Int64), .second, iv (2 : Int32)] [(.long (0 : Int64)), (.long (0 : Int64))]) (fun t' k => XS.lconst X18.here hx rfl (hb hby own_dA_72) k) ?_
  refine own_go (mkF m 74 #[rv t, iv (0 : Int32), jv x, .second, iv (-1 : Int32), jv (0 : Int64), .second, iv (2 : Int32)] [(.int (lcmpW (0 : Int64) (0 : Int64)))]) (fun t' k => XS.lcmp X18.here hx rfl (hb hby own_dA_73) rfl k) ?_
  refine own_go (mkF m 89 #[rv t, iv (0 : Int32), jv x, .second, iv (-1 : Int32), jv (0 : Int64), .second, iv (2 : Int32)] []) (fun t' k => XS.ifYes X18.here hx rfl (pc0 := 74) (pc' := 89) rfl (hb hby own_dA_74) rfl ((if0 _ _).trans (teq ((lw_eq (0 : Int64) (0 : Int64)).mpr (by decide : (0 : Int64) = (0 : Int64)))).1) (by decide) (by decide) k) ?_
  refine own_go (mkF m 91 #[rv t, iv (0 : Int32), jv x, .second, iv (-1 : Int32), jv (0 : Int64), .second, iv (2 : Int32)] [(.int (2 : Int32))]) (fun t' k => XS.iload X18.here hx rfl (hb hby own_dA_89) rfl  k) ?_
  refine own_go (mkF m 93 #[rv t, iv (0 : Int32), jv x, .second, iv (-1 : Int32), jv (0 : Int64), .second, iv (2 : Int32)] [(.int (2 : Int32)), (.int (2 : Int32))]) (fun t' k => XS.iload X18.here hx rfl (hb hby own_dA_91) rfl  k) ?_
  refine own_go (mkF m 95 #[rv t, iv (0 : Int32), jv x, .second, iv (-1 : Int32), jv (0 : Int64), .second, iv (2 : Int32)] [(.int (2 : Int32)), (.int (2 : Int32)), (.int (2 : Int32))]) (fun t' k => XS.iload X18.here hx rfl (hb hby own_dA_93) rfl  k) ?_
  refine own_go (mkF m 96 #[rv t, iv (0 : Int32), jv x, .second, iv (-1 : Int32), jv (0 : Int64), .second, iv (2 : Int32)] [(.int (-2 : Int32)), (.int (2 : Int32)), (.int (2 : Int32))]) (fun t' k => XS.ineg X18.here hx rfl (hb hby own_dA_95) rfl k) ?_
  refine own_go (mkF m 97 #[rv t, iv (0 : Int32), jv x, .second, iv (-1 : Int32), jv (0 : Int64), .second, iv (2 : Int32)] [(.int (2 : Int32)), (.int (2 : Int32))]) (fun t' k => XS.iand X18.here hx rfl (hb hby own_dA_96) rfl k) ?_
  refine own_go (mkF m 98 #[rv t, iv (0 : Int32), jv x, .second, iv (-1 : Int32), jv (0 : Int64), .second, iv (2 : Int32)] [(.int (4 : Int32))]) (fun t' k => XS.iadd X18.here hx rfl (hb hby own_dA_97) rfl k) ?_
  refine own_go (mkF m 100 #[rv t, iv (0 : Int32), jv x, .second, iv (-1 : Int32), jv (0 : Int64), .second, iv (4 : Int32)] []) (fun t' k => XS.istore X18.here hx rfl (hb hby own_dA_98) rfl (l' := #[rv t, iv (0 : Int32), jv x, .second, iv (-1 : Int32), jv (0 : Int64), .second, iv (4 : Int32)]) rfl k) ?_
  refine own_go (mkF m 37 #[rv t, iv (0 : Int32), jv x, .second, iv (-1 : Int32), jv (0 : Int64), .second, iv (4 : Int32)] []) (fun t' k => XS.goto X18.here hx rfl (pc0 := 100) (pc' := 37) rfl (hb hby own_dA_100) (by decide) (by decide) k) ?_
  refine own_go (mkF m 39 #[rv t, iv (0 : Int32), jv x, .second, iv (-1 : Int32), jv (0 : Int64), .second, iv (4 : Int32)] [(.int (4 : Int32))]) (fun t' k => XS.iload X18.here hx rfl (hb hby own_dA_37) rfl  k) ?_
  refine own_go (mkF m 40 #[rv t, iv (0 : Int32), jv x, .second, iv (-1 : Int32), jv (0 : Int64), .second, iv (4 : Int32)] [(.ref t), (.int (4 : Int32))]) (fun t' k => XS.aloadN X18.here hx rfl (hb hby own_dA_39) rfl rfl  k) ?_
  refine X18.getF hx hZ hown (hw _ (List.mem_of_getElem? (i := 18) rfl)) e18 F_sums (hb hby own_dA_40) ?_
  intro T19 X19 e19
  refine X19.aleno hx hZ e19 A_bs (hb hby own_dA_43) ?_
  show own_G p e below s _ _ _ T19 (mkF m 44 #[rv t, iv (0 : Int32), jv x, .second, iv (-1 : Int32), jv (0 : Int64), .second, iv (4 : Int32)] [(.int (7 : Int32)), (.int (4 : Int32))])
  refine own_go (mkF m 47 #[rv t, iv (0 : Int32), jv x, .second, iv (-1 : Int32), jv (0 : Int64), .second, iv (4 : Int32)] []) (fun t' k => XS.icmpNo X19.here hx rfl (hb hby own_dA_44) rfl (tlt (by decide)).2.1 k) ?_
  refine own_go (mkF m 48 #[rv t, iv (0 : Int32), jv x, .second, iv (-1 : Int32), jv (0 : Int64), .second, iv (4 : Int32)] [(.ref t)]) (fun t' k => XS.aloadN X19.here hx rfl (hb hby own_dA_47) rfl rfl  k) ?_
  refine X19.getF hx hZ hown (hw _ (List.mem_of_getElem? (i := 18) rfl)) e19 F_sums (hb hby own_dA_48) ?_
  intro T20 X20 e20
  refine own_go (mkF m 53 #[rv t, iv (0 : Int32), jv x, .second, iv (-1 : Int32), jv (0 : Int64), .second, iv (4 : Int32)] [(.int (4 : Int32)), (.ref bs)]) (fun t' k => XS.iload X20.here hx rfl (hb hby own_dA_51) rfl  k) ?_
  refine own_go (mkF m 54 #[rv t, iv (0 : Int32), jv x, .second, iv (-1 : Int32), jv (0 : Int64), .second, iv (4 : Int32)] [(.int (4 : Int32)), (.ref bs), (.int (4 : Int32)), (.ref bs)]) (fun t' k => Jvm.Free.XT.dup2 X20.here hx rfl (hb hby own_dA_53) rfl rfl rfl k) ?_
  refine X20.ldJo hx hZ e20 A_bs 4 (by decide) (by decide) (hb hby own_dA_54) ?_
  rintro _ ⟨y21, rfl⟩
  refine own_go (mkF m 56 #[rv t, iv (0 : Int32), jv x, .second, iv (-1 : Int32), jv (0 : Int64), .second, iv (4 : Int32)] [(.long x), (.long y21), (.int (4 : Int32)), (.ref bs)]) (fun t' k => XS.lloadN X20.here hx rfl (hb hby own_dA_55) rfl  k) ?_
  refine own_go (mkF m 57 #[rv t, iv (0 : Int32), jv x, .second, iv (-1 : Int32), jv (0 : Int64), .second, iv (4 : Int32)] [(.long (y21 + x)), (.int (4 : Int32)), (.ref bs)]) (fun t' k => XS.ladd X20.here hx rfl (hb hby own_dA_56) rfl k) ?_
  refine X20.stJo hx hZ e20 A_bs g_bs 4 (by decide) (by decide) ⟨_, rfl⟩ (hb hby own_dA_57) ?_
  intro T22 h22 X22 e22 W22 A22
  replace A_bs := A22
  replace E_t := E_t.wr W22
  replace A_w := A_w.other W22 ne_w_bs
  replace A_bp := A_bp.other W22 ne_bp_bs
  replace A_bc := A_bc.other W22 (Ne.symm ne_bs_bc)
  replace F_weights := F_weights.other W22 (Or.inl ne_t_bs)
  replace F_present := F_present.other W22 (Or.inl ne_t_bs)
  replace F_sums := F_sums.other W22 (Or.inl ne_t_bs)
  replace F_counts := F_counts.other W22 (Or.inl ne_t_bs)
  replace F_top := F_top.other W22 (Or.inl ne_t_bs)
  replace F_rising := F_rising.other W22 (Or.inl ne_t_bs)
  replace F_total := F_total.other W22 (Or.inl ne_t_bs)
  replace F_taking := F_taking.other W22 (Or.inl ne_t_bs)
  replace F_rc := F_rc.other W22 (Or.inl ne_t_bs)
  replace hn := Nat.le_trans hn (Keep.of_wr W22).1
  clear W22 X20 e20
  refine own_go (mkF m 59 #[rv t, iv (0 : Int32), jv x, .second, iv (-1 : Int32), jv (0 : Int64), .second, iv (4 : Int32)] [(.ref t)]) (fun t' k => XS.aloadN X22.here hx rfl (hb hby own_dA_58) rfl rfl  k) ?_
  refine X22.getF hx hZ hown (hw _ (List.mem_of_getElem? (i := 21) rfl)) e22 F_counts (hb hby own_dA_59) ?_
  intro T23 X23 e23
  refine own_go (mkF m 64 #[rv t, iv (0 : Int32), jv x, .second, iv (-1 : Int32), jv (0 : Int64), .second, iv (4 : Int32)] [(.int (4 : Int32)), (.ref bc)]) (fun t' k => XS.iload X23.here hx rfl (hb hby own_dA_62) rfl  k) ?_
  refine own_go (mkF m 65 #[rv t, iv (0 : Int32), jv x, .second, iv (-1 : Int32), jv (0 : Int64), .second, iv (4 : Int32)] [(.int (4 : Int32)), (.ref bc), (.int (4 : Int32)), (.ref bc)]) (fun t' k => Jvm.Free.XT.dup2 X23.here hx rfl (hb hby own_dA_64) rfl rfl rfl k) ?_
  refine X23.ldI hx hZ e23 A_bc (v := (.int k4)) 4 (by decide) rfl (hb hby own_dA_65) ?_
  refine own_go (mkF m 68 #[rv t, iv (0 : Int32), jv x, .second, iv (-1 : Int32), jv (0 : Int64), .second, iv (4 : Int32)] [(.int (-1 : Int32)), (.int k4), (.int (4 : Int32)), (.ref bc)]) (fun t' k => XS.iload X23.here hx rfl (hb hby own_dA_66) rfl  k) ?_
  refine own_go (mkF m 69 #[rv t, iv (0 : Int32), jv x, .second, iv (-1 : Int32), jv (0 : Int64), .second, iv (4 : Int32)] [(.int (k4 + (-1 : Int32))), (.int (4 : Int32)), (.ref bc)]) (fun t' k => XS.iadd X23.here hx rfl (hb hby own_dA_68) rfl k) ?_
  refine X23.stI hx hZ e23 A_bc g_bc 4 (by decide) (Nat.le_of_ble_eq_true rfl) (hb hby own_dA_69) ?_
  intro T24 h24 X24 e24 W24 A24
  replace A_bc : own_A Z h24 .int bc [(.int k0), (.int (k1 + (-1 : Int32))), (.int (k2 + (-1 : Int32))), (.int k3), (.int (k4 + (-1 : Int32))), (.int k5), (.int k6)] := A24
  clear A24
  replace E_t := E_t.wr W24
  replace A_w := A_w.other W24 ne_w_bc
  replace A_bp := A_bp.other W24 ne_bp_bc
  replace A_bs := A_bs.other W24 ne_bs_bc
  replace F_weights := F_weights.other W24 (Or.inl ne_t_bc)
  replace F_present := F_present.other W24 (Or.inl ne_t_bc)
  replace F_sums := F_sums.other W24 (Or.inl ne_t_bc)
  replace F_counts := F_counts.other W24 (Or.inl ne_t_bc)
  replace F_top := F_top.other W24 (Or.inl ne_t_bc)
  replace F_rising := F_rising.other W24 (Or.inl ne_t_bc)
  replace F_total := F_total.other W24 (Or.inl ne_t_bc)
  replace F_taking := F_taking.other W24 (Or.inl ne_t_bc)
  replace F_rc := F_rc.other W24 (Or.inl ne_t_bc)
  replace hn := Nat.le_trans hn (Keep.of_wr W24).1
  clear W24 X23 e23
  refine own_go (mkF m 72 #[rv t, iv (0 : Int32), jv x, .second, iv (-1 : Int32), jv (0 : Int64), .second, iv (4 : Int32)] [(.long (0 : Int64))]) (fun t' k => XS.lload X24.here hx rfl (hb hby own_dA_70) rfl  k) ?_
  refine own_go (mkF m 73 #[rv t, iv (0 : Int32), jv x, .second, iv (-1 : Int32), jv (0 : Int64), .second, iv (4 : Int32)] [(.long (0 : Int64)), (.long (0 : Int64))]) (fun t' k => XS.lconst X24.here hx rfl (hb hby own_dA_72) k) ?_
  refine own_go (mkF m 74 #[rv t, iv (0 : Int32), jv x, .second, iv (-1 : Int32), jv (0 : Int64), .second, iv (4 : Int32)] [(.int (lcmpW (0 : Int64) (0 : Int64)))]) (fun t' k => XS.lcmp X24.here hx rfl (hb hby own_dA_73) rfl k) ?_
  refine own_go (mkF m 89 #[rv t, iv (0 : Int32), jv x, .second, iv (-1 : Int32), jv (0 : Int64), .second, iv (4 : Int32)] []) (fun t' k => XS.ifYes X24.here hx rfl (pc0 := 74) (pc' := 89) rfl (hb hby own_dA_74) rfl ((if0 _ _).trans (teq ((lw_eq (0 : Int64) (0 : Int64)).mpr (by decide : (0 : Int64) = (0 : Int64)))).1) (by decide) (by decide) k) ?_
  refine own_go (mkF m 91 #[rv t, iv (0 : Int32), jv x, .second, iv (-1 : Int32), jv (0 : Int64), .second, iv (4 : Int32)] [(.int (4 : Int32))]) (fun t' k => XS.iload X24.here hx rfl (hb hby own_dA_89) rfl  k) ?_
  refine own_go (mkF m 93 #[rv t, iv (0 : Int32), jv x, .second, iv (-1 : Int32), jv (0 : Int64), .second, iv (4 : Int32)] [(.int (4 : Int32)), (.int (4 : Int32))]) (fun t' k => XS.iload X24.here hx rfl (hb hby own_dA_91) rfl  k) ?_
  refine own_go (mkF m 95 #[rv t, iv (0 : Int32), jv x, .second, iv (-1 : Int32), jv (0 : Int64), .second, iv (4 : Int32)] [(.int (4 : Int32)), (.int (4 : Int32)), (.int (4 : Int32))]) (fun t' k => XS.iload X24.here hx rfl (hb hby own_dA_93) rfl  k) ?_
  refine own_go (mkF m 96 #[rv t, iv (0 : Int32), jv x, .second, iv (-1 : Int32), jv (0 : Int64), .second, iv (4 : Int32)] [(.int (-4 : Int32)), (.int (4 : Int32)), (.int (4 : Int32))]) (fun t' k => XS.ineg X24.here hx rfl (hb hby own_dA_95) rfl k) ?_
  refine own_go (mkF m 97 #[rv t, iv (0 : Int32), jv x, .second, iv (-1 : Int32), jv (0 : Int64), .second, iv (4 : Int32)] [(.int (4 : Int32)), (.int (4 : Int32))]) (fun t' k => XS.iand X24.here hx rfl (hb hby own_dA_96) rfl k) ?_
  refine own_go (mkF m 98 #[rv t, iv (0 : Int32), jv x, .second, iv (-1 : Int32), jv (0 : Int64), .second, iv (4 : Int32)] [(.int (8 : Int32))]) (fun t' k => XS.iadd X24.here hx rfl (hb hby own_dA_97) rfl k) ?_
  refine own_go (mkF m 100 #[rv t, iv (0 : Int32), jv x, .second, iv (-1 : Int32), jv (0 : Int64), .second, iv (8 : Int32)] []) (fun t' k => XS.istore X24.here hx rfl (hb hby own_dA_98) rfl (l' := #[rv t, iv (0 : Int32), jv x, .second, iv (-1 : Int32), jv (0 : Int64), .second, iv (8 : Int32)]) rfl k) ?_
  refine own_go (mkF m 37 #[rv t, iv (0 : Int32), jv x, .second, iv (-1 : Int32), jv (0 : Int64), .second, iv (8 : Int32)] []) (fun t' k => XS.goto X24.here hx rfl (pc0 := 100) (pc' := 37) rfl (hb hby own_dA_100) (by decide) (by decide) k) ?_
  refine own_go (mkF m 39 #[rv t, iv (0 : Int32), jv x, .second, iv (-1 : Int32), jv (0 : Int64), .second, iv (8 : Int32)] [(.int (8 : Int32))]) (fun t' k => XS.iload X24.here hx rfl (hb hby own_dA_37) rfl  k) ?_
  refine own_go (mkF m 40 #[rv t, iv (0 : Int32), jv x, .second, iv (-1 : Int32), jv (0 : Int64), .second, iv (8 : Int32)] [(.ref t), (.int (8 : Int32))]) (fun t' k => XS.aloadN X24.here hx rfl (hb hby own_dA_39) rfl rfl  k) ?_
  refine X24.getF hx hZ hown (hw _ (List.mem_of_getElem? (i := 18) rfl)) e24 F_sums (hb hby own_dA_40) ?_
  intro T25 X25 e25
  refine X25.aleno hx hZ e25 A_bs (hb hby own_dA_43) ?_
  show own_G p e below s _ _ _ T25 (mkF m 44 #[rv t, iv (0 : Int32), jv x, .second, iv (-1 : Int32), jv (0 : Int64), .second, iv (8 : Int32)] [(.int (7 : Int32)), (.int (8 : Int32))])
  refine own_go (mkF m 103 #[rv t, iv (0 : Int32), jv x, .second, iv (-1 : Int32), jv (0 : Int64), .second, iv (8 : Int32)] []) (fun t' k => XS.icmpYes X25.here hx rfl (pc0 := 44) (pc' := 103) rfl (hb hby own_dA_44) rfl (flt (by decide)).2.1 (by decide) (by decide) k) ?_
  refine X25.retV hx hlk hret (hb hby own_dA_103) ?_ (by decide) (by decide)
  rw [e25]
  exact ⟨rfl, ⟨⟨hn, g_t, g_bp, g_bs, g_bc⟩, ⟨ne_t_w, ne_t_bp, ne_t_bs, ne_t_bc, ne_w_bp, ne_w_bs, ne_w_bc, ne_bp_bs, ne_bp_bc, ne_bs_bc⟩, ⟨E_t, A_w, A_bp, A_bs, A_bc⟩, ⟨F_weights, F_present, F_sums, F_counts, F_top, F_rising⟩, _, _, _, F_total, F_taking, F_rc⟩⟩

theorem own_pn_own_rmA1 : plainFor (⟨"com/example/load_across_peers/loadacrosspeers/internal/pick/WeightTree", "add", "(IJIJ)V"⟩ : MethodName) = true := plainFor_of_name (show plainName "com/example/load_across_peers/loadacrosspeers/internal/pick/WeightTree" = true by first | (simp [plainName, overriddenIn]; done) | decide +kernel)
set_option maxRecDepth 65536 in
set_option maxHeartbeats 40000000 in
theorem own_rmA1 (l : Launch) (Z : State) (a0 : Array Value) (hw : ∀ d ∈ tables_1, d.before a0 Z = true) (ws : List Jvm.Cond) (h0 : Heap) (n0 : Nat) (t w bp bs bc : Addr) (k0 k1 k2 k3 k4 k5 k6 : Int32) (HT : own_T Z h0 n0 t w bp bs bc [(.int k0), (.int k1), (.int k2), (.int k3), (.int k4), (.int k5), (.int k6)]) (x : Int64)  :
    own_C l Z (⟨"com/example/load_across_peers/loadacrosspeers/internal/pick/WeightTree", "add", "(IJIJ)V"⟩ : MethodName) prog_32_method_13_code 8 none ws ({ frames := 0, cells := 0, slots := 0, locals := 0 } : Room) #[(.ref t), (.int (1 : Int32)), (.long x), (.int (-1 : Int32)), (.long (0 : Int64))] h0 (own_Q n0 (fun v h => v = none ∧ own_T Z h n0 t w bp bs bc [(.int k0), (.int k1), (.int (k2 + (-1 : Int32))), (.int k3), (.int (k4 + (-1 : Int32))), (.int k5), (.int k6)])) := by
  refine own_met own_pn_own_rmA1 #[rv t, iv (1 : Int32), jv x, .second, iv (-1 : Int32), jv (0 : Int64), .second, .unset] (fun m => by first | (simp [entryFrame, mkF, argsToLocals, Value.category]; done) | rfl) ?_
  intro p e s m below meth c s₁ hx hby hml hown hret hlk hZ hnm X0 e0
  replace X0 := own_S.of X0 (n0)
  obtain ⟨⟨hn, g_t, g_bp, g_bs, g_bc⟩, ⟨ne_t_w, ne_t_bp, ne_t_bs, ne_t_bc, ne_w_bp, ne_w_bs, ne_w_bc, ne_bp_bs, ne_bp_bc, ne_bs_bc⟩, ⟨E_t, A_w, A_bp, A_bs, A_bc⟩, ⟨F_weights, F_present, F_sums, F_counts, F_top, F_rising⟩, u1, u2, u3, F_total, F_taking, F_rc⟩ := HT
  refine own_go (mkF m 1 #[rv t, iv (1 : Int32), jv x, .second, iv (-1 : Int32), jv (0 : Int64), .second, .unset] [(.ref t)]) (fun t' k => XS.aloadN X0.here hx rfl (hb hby own_dA_0) rfl rfl  k) ?_
  refine own_go (mkF m 2 #[rv t, iv (1 : Int32), jv x, .second, iv (-1 : Int32), jv (0 : Int64), .second, .unset] [(.ref t), (.ref t)]) (fun t' k => XS.dup X0.here hx rfl (hb hby own_dA_1) rfl rfl k) ?_
  refine X0.getF hx hZ hown (hw _ (List.mem_of_getElem? (i := 34) rfl)) e0 F_total (hb hby own_dA_2) ?_
  intro T1 X1 e1
  refine own_go (mkF m 6 #[rv t, iv (1 : Int32), jv x, .second, iv (-1 : Int32), jv (0 : Int64), .second, .unset] [(.long x), (.long u1), (.ref t)]) (fun t' k => XS.lloadN X1.here hx rfl (hb hby own_dA_5) rfl  k) ?_
  refine own_go (mkF m 7 #[rv t, iv (1 : Int32), jv x, .second, iv (-1 : Int32), jv (0 : Int64), .second, .unset] [(.long (u1 + x)), (.ref t)]) (fun t' k => XS.ladd X1.here hx rfl (hb hby own_dA_6) rfl k) ?_
  refine X1.putF hx hZ hown (hw _ (List.mem_of_getElem? (i := 34) rfl)) e1 F_total E_t g_t (Or.inl (hw _ (List.mem_of_getElem? (i := 35) rfl))) (hw _ (List.mem_of_getElem? (i := 2) rfl)) (ty := .long) (by decide) rfl rfl (hb hby own_dA_7) ?_
  intro T2 h2 X2 e2 W2
  replace E_t := E_t.wr W2
  replace A_w := A_w.other W2 (Ne.symm ne_t_w)
  replace A_bp := A_bp.other W2 (Ne.symm ne_t_bp)
  replace A_bs := A_bs.other W2 (Ne.symm ne_t_bs)
  replace A_bc := A_bc.other W2 (Ne.symm ne_t_bc)
  replace F_weights := F_weights.other W2 (Or.inr (own_sn_WeightTree_weights_total hw))
  replace F_present := F_present.other W2 (Or.inr (own_sn_WeightTree_present_total hw))
  replace F_sums := F_sums.other W2 (Or.inr (own_sn_WeightTree_sums_total hw))
  replace F_counts := F_counts.other W2 (Or.inr (own_sn_WeightTree_counts_total hw))
  replace F_top := F_top.other W2 (Or.inr (own_sn_WeightTree_top_total hw))
  replace F_rising := F_rising.other W2 (Or.inr (own_sn_WeightTree_rising_total hw))
  replace F_total := F_total.same W2
  replace F_taking := F_taking.other W2 (Or.inr (own_sn_WeightTree_taking_total hw))
  replace F_rc := F_rc.other W2 (Or.inr (own_sn_WeightTree_risingCount_total hw))
  replace hn := Nat.le_trans hn (Keep.of_wr W2).1
  clear W2 X1 e1
  generalize (u1 + x) = ug2 at F_total
  refine own_go (mkF m 11 #[rv t, iv (1 : Int32), jv x, .second, iv (-1 : Int32), jv (0 : Int64), .second, .unset] [(.ref t)]) (fun t' k => XS.aloadN X2.here hx rfl (hb hby own_dA_10) rfl rfl  k) ?_
  refine own_go (mkF m 12 #[rv t, iv (1 : Int32), jv x, .second, iv (-1 : Int32), jv (0 : Int64), .second, .unset] [(.ref t), (.ref t)]) (fun t' k => XS.dup X2.here hx rfl (hb hby own_dA_11) rfl rfl k) ?_
  refine X2.getF hx hZ hown (hw _ (List.mem_of_getElem? (i := 36) rfl)) e2 F_taking (hb hby own_dA_12) ?_
  intro T3 X3 e3
  refine own_go (mkF m 17 #[rv t, iv (1 : Int32), jv x, .second, iv (-1 : Int32), jv (0 : Int64), .second, .unset] [(.int (-1 : Int32)), (.int u2), (.ref t)]) (fun t' k => XS.iload X3.here hx rfl (hb hby own_dA_15) rfl  k) ?_
  refine own_go (mkF m 18 #[rv t, iv (1 : Int32), jv x, .second, iv (-1 : Int32), jv (0 : Int64), .second, .unset] [(.int (u2 + (-1 : Int32))), (.ref t)]) (fun t' k => XS.iadd X3.here hx rfl (hb hby own_dA_17) rfl k) ?_
  refine X3.putF hx hZ hown (hw _ (List.mem_of_getElem? (i := 36) rfl)) e3 F_taking E_t g_t (Or.inl (hw _ (List.mem_of_getElem? (i := 37) rfl))) (hw _ (List.mem_of_getElem? (i := 2) rfl)) (ty := .int) (by decide) rfl rfl (hb hby own_dA_18) ?_
  intro T4 h4 X4 e4 W4
  replace E_t := E_t.wr W4
  replace A_w := A_w.other W4 (Ne.symm ne_t_w)
  replace A_bp := A_bp.other W4 (Ne.symm ne_t_bp)
  replace A_bs := A_bs.other W4 (Ne.symm ne_t_bs)
  replace A_bc := A_bc.other W4 (Ne.symm ne_t_bc)
  replace F_weights := F_weights.other W4 (Or.inr (own_sn_WeightTree_weights_taking hw))
  replace F_present := F_present.other W4 (Or.inr (own_sn_WeightTree_present_taking hw))
  replace F_sums := F_sums.other W4 (Or.inr (own_sn_WeightTree_sums_taking hw))
  replace F_counts := F_counts.other W4 (Or.inr (own_sn_WeightTree_counts_taking hw))
  replace F_top := F_top.other W4 (Or.inr (own_sn_WeightTree_top_taking hw))
  replace F_rising := F_rising.other W4 (Or.inr (own_sn_WeightTree_rising_taking hw))
  replace F_total := F_total.other W4 (Or.inr (own_sn_WeightTree_total_taking hw))
  replace F_taking := F_taking.same W4
  replace F_rc := F_rc.other W4 (Or.inr (own_sn_WeightTree_risingCount_taking hw))
  replace hn := Nat.le_trans hn (Keep.of_wr W4).1
  clear W4 X3 e3
  generalize (u2 + (-1 : Int32)) = ug4 at F_taking
  refine own_go (mkF m 22 #[rv t, iv (1 : Int32), jv x, .second, iv (-1 : Int32), jv (0 : Int64), .second, .unset] [(.ref t)]) (fun t' k => XS.aloadN X4.here hx rfl (hb hby own_dA_21) rfl rfl  k) ?_
  refine own_go (mkF m 23 #[rv t, iv (1 : Int32), jv x, .second, iv (-1 : Int32), jv (0 : Int64), .second, .unset] [(.ref t), (.ref t)]) (fun t' k => XS.dup X4.here hx rfl (hb hby own_dA_22) rfl rfl k) ?_
  refine X4.getF hx hZ hown (hw _ (List.mem_of_getElem? (i := 59) rfl)) e4 F_rc (hb hby own_dA_23) ?_
  intro T5 X5 e5
  refine own_go (mkF m 28 #[rv t, iv (1 : Int32), jv x, .second, iv (-1 : Int32), jv (0 : Int64), .second, .unset] [(.long (0 : Int64)), (.long u3), (.ref t)]) (fun t' k => XS.lload X5.here hx rfl (hb hby own_dA_26) rfl  k) ?_
  refine own_go (mkF m 29 #[rv t, iv (1 : Int32), jv x, .second, iv (-1 : Int32), jv (0 : Int64), .second, .unset] [(.long (u3 + (0 : Int64))), (.ref t)]) (fun t' k => XS.ladd X5.here hx rfl (hb hby own_dA_28) rfl k) ?_
  refine X5.putF hx hZ hown (hw _ (List.mem_of_getElem? (i := 59) rfl)) e5 F_rc E_t g_t (Or.inl (hw _ (List.mem_of_getElem? (i := 60) rfl))) (hw _ (List.mem_of_getElem? (i := 2) rfl)) (ty := .long) (by decide) rfl rfl (hb hby own_dA_29) ?_
  intro T6 h6 X6 e6 W6
  replace E_t := E_t.wr W6
  replace A_w := A_w.other W6 (Ne.symm ne_t_w)
  replace A_bp := A_bp.other W6 (Ne.symm ne_t_bp)
  replace A_bs := A_bs.other W6 (Ne.symm ne_t_bs)
  replace A_bc := A_bc.other W6 (Ne.symm ne_t_bc)
  replace F_weights := F_weights.other W6 (Or.inr (own_sn_WeightTree_weights_risingCount hw))
  replace F_present := F_present.other W6 (Or.inr (own_sn_WeightTree_present_risingCount hw))
  replace F_sums := F_sums.other W6 (Or.inr (own_sn_WeightTree_sums_risingCount hw))
  replace F_counts := F_counts.other W6 (Or.inr (own_sn_WeightTree_counts_risingCount hw))
  replace F_top := F_top.other W6 (Or.inr (own_sn_WeightTree_top_risingCount hw))
  replace F_rising := F_rising.other W6 (Or.inr (own_sn_WeightTree_rising_risingCount hw))
  replace F_total := F_total.other W6 (Or.inr (own_sn_WeightTree_total_risingCount hw))
  replace F_taking := F_taking.other W6 (Or.inr (own_sn_WeightTree_taking_risingCount hw))
  replace F_rc := F_rc.same W6
  replace hn := Nat.le_trans hn (Keep.of_wr W6).1
  clear W6 X5 e5
  generalize (u3 + (0 : Int64)) = ug6 at F_rc
  refine own_go (mkF m 33 #[rv t, iv (1 : Int32), jv x, .second, iv (-1 : Int32), jv (0 : Int64), .second, .unset] [(.int (1 : Int32))]) (fun t' k => XS.iloadN X6.here hx rfl (hb hby own_dA_32) rfl  k) ?_
  refine own_go (mkF m 34 #[rv t, iv (1 : Int32), jv x, .second, iv (-1 : Int32), jv (0 : Int64), .second, .unset] [(.int (1 : Int32)), (.int (1 : Int32))]) (fun t' k => XS.iconst X6.here hx rfl (hb hby own_dA_33) k) ?_
  refine own_go (mkF m 35 #[rv t, iv (1 : Int32), jv x, .second, iv (-1 : Int32), jv (0 : Int64), .second, .unset] [(.int (2 : Int32))]) (fun t' k => XS.iadd X6.here hx rfl (hb hby own_dA_34) rfl k) ?_
  refine own_go (mkF m 37 #[rv t, iv (1 : Int32), jv x, .second, iv (-1 : Int32), jv (0 : Int64), .second, iv (2 : Int32)] []) (fun t' k => XS.istore X6.here hx rfl (hb hby own_dA_35) rfl (l' := #[rv t, iv (1 : Int32), jv x, .second, iv (-1 : Int32), jv (0 : Int64), .second, iv (2 : Int32)]) rfl k) ?_
  refine own_go (mkF m 39 #[rv t, iv (1 : Int32), jv x, .second, iv (-1 : Int32), jv (0 : Int64), .second, iv (2 : Int32)] [(.int (2 : Int32))]) (fun t' k => XS.iload X6.here hx rfl (hb hby own_dA_37) rfl  k) ?_
  refine own_go (mkF m 40 #[rv t, iv (1 : Int32), jv x, .second, iv (-1 : Int32), jv (0 : Int64), .second, iv (2 : Int32)] [(.ref t), (.int (2 : Int32))]) (fun t' k => XS.aloadN X6.here hx rfl (hb hby own_dA_39) rfl rfl  k) ?_
  refine X6.getF hx hZ hown (hw _ (List.mem_of_getElem? (i := 18) rfl)) e6 F_sums (hb hby own_dA_40) ?_
  intro T7 X7 e7
  refine X7.aleno hx hZ e7 A_bs (hb hby own_dA_43) ?_
  show own_G p e below s _ _ _ T7 (mkF m 44 #[rv t, iv (1 : Int32), jv x, .second, iv (-1 : Int32), jv (0 : Int64), .second, iv (2 : Int32)] [(.int (7 : Int32)), (.int (2 : Int32))])
  refine own_go (mkF m 47 #[rv t, iv (1 : Int32), jv x, .second, iv (-1 : Int32), jv (0 : Int64), .second, iv (2 : Int32)] []) (fun t' k => XS.icmpNo X7.here hx rfl (hb hby own_dA_44) rfl (tlt (by decide)).2.1 k) ?_
  refine own_go (mkF m 48 #[rv t, iv (1 : Int32), jv x, .second, iv (-1 : Int32), jv (0 : Int64), .second, iv (2 : Int32)] [(.ref t)]) (fun t' k => XS.aloadN X7.here hx rfl (hb hby own_dA_47) rfl rfl  k) ?_
  refine X7.getF hx hZ hown (hw _ (List.mem_of_getElem? (i := 18) rfl)) e7 F_sums (hb hby own_dA_48) ?_
  intro T8 X8 e8
  refine own_go (mkF m 53 #[rv t, iv (1 : Int32), jv x, .second, iv (-1 : Int32), jv (0 : Int64), .second, iv (2 : Int32)] [(.int (2 : Int32)), (.ref bs)]) (fun t' k => XS.iload X8.here hx rfl (hb hby own_dA_51) rfl  k) ?_
  refine own_go (mkF m 54 #[rv t, iv (1 : Int32), jv x, .second, iv (-1 : Int32), jv (0 : Int64), .second, iv (2 : Int32)] [(.int (2 : Int32)), (.ref bs), (.int (2 : Int32)), (.ref bs)]) (fun t' k => Jvm.Free.XT.dup2 X8.here hx rfl (hb hby own_dA_53) rfl rfl rfl k) ?_
  refine X8.ldJo hx hZ e8 A_bs 2 (by decide) (by decide) (hb hby own_dA_54) ?_
  rintro _ ⟨y9, rfl⟩
  refine own_go (mkF m 56 #[rv t, iv (1 : Int32), jv x, .second, iv (-1 : Int32), jv (0 : Int64), .second, iv (2 : Int32)] [(.long x), (.long y9), (.int (2 : Int32)), (.ref bs)]) (fun t' k => XS.lloadN X8.here hx rfl (hb hby own_dA_55) rfl  k) ?_
  refine own_go (mkF m 57 #[rv t, iv (1 : Int32), jv x, .second, iv (-1 : Int32), jv (0 : Int64), .second, iv (2 : Int32)] [(.long (y9 + x)), (.int (2 : Int32)), (.ref bs)]) (fun t' k => XS.ladd X8.here hx rfl (hb hby own_dA_56) rfl k) ?_
  refine X8.stJo hx hZ e8 A_bs g_bs 2 (by decide) (by decide) ⟨_, rfl⟩ (hb hby own_dA_57) ?_
  intro T10 h10 X10 e10 W10 A10
  replace A_bs := A10
  replace E_t := E_t.wr W10
  replace A_w := A_w.other W10 ne_w_bs
  replace A_bp := A_bp.other W10 ne_bp_bs
  replace A_bc := A_bc.other W10 (Ne.symm ne_bs_bc)
  replace F_weights := F_weights.other W10 (Or.inl ne_t_bs)
  replace F_present := F_present.other W10 (Or.inl ne_t_bs)
  replace F_sums := F_sums.other W10 (Or.inl ne_t_bs)
  replace F_counts := F_counts.other W10 (Or.inl ne_t_bs)
  replace F_top := F_top.other W10 (Or.inl ne_t_bs)
  replace F_rising := F_rising.other W10 (Or.inl ne_t_bs)
  replace F_total := F_total.other W10 (Or.inl ne_t_bs)
  replace F_taking := F_taking.other W10 (Or.inl ne_t_bs)
  replace F_rc := F_rc.other W10 (Or.inl ne_t_bs)
  replace hn := Nat.le_trans hn (Keep.of_wr W10).1
  clear W10 X8 e8
  refine own_go (mkF m 59 #[rv t, iv (1 : Int32), jv x, .second, iv (-1 : Int32), jv (0 : Int64), .second, iv (2 : Int32)] [(.ref t)]) (fun t' k => XS.aloadN X10.here hx rfl (hb hby own_dA_58) rfl rfl  k) ?_
  refine X10.getF hx hZ hown (hw _ (List.mem_of_getElem? (i := 21) rfl)) e10 F_counts (hb hby own_dA_59) ?_
  intro T11 X11 e11
  refine own_go (mkF m 64 #[rv t, iv (1 : Int32), jv x, .second, iv (-1 : Int32), jv (0 : Int64), .second, iv (2 : Int32)] [(.int (2 : Int32)), (.ref bc)]) (fun t' k => XS.iload X11.here hx rfl (hb hby own_dA_62) rfl  k) ?_
  refine own_go (mkF m 65 #[rv t, iv (1 : Int32), jv x, .second, iv (-1 : Int32), jv (0 : Int64), .second, iv (2 : Int32)] [(.int (2 : Int32)), (.ref bc), (.int (2 : Int32)), (.ref bc)]) (fun t' k => Jvm.Free.XT.dup2 X11.here hx rfl (hb hby own_dA_64) rfl rfl rfl k) ?_
  refine X11.ldI hx hZ e11 A_bc (v := (.int k2)) 2 (by decide) rfl (hb hby own_dA_65) ?_
  refine own_go (mkF m 68 #[rv t, iv (1 : Int32), jv x, .second, iv (-1 : Int32), jv (0 : Int64), .second, iv (2 : Int32)] [(.int (-1 : Int32)), (.int k2), (.int (2 : Int32)), (.ref bc)]) (fun t' k => XS.iload X11.here hx rfl (hb hby own_dA_66) rfl  k) ?_
  refine own_go (mkF m 69 #[rv t, iv (1 : Int32), jv x, .second, iv (-1 : Int32), jv (0 : Int64), .second, iv (2 : Int32)] [(.int (k2 + (-1 : Int32))), (.int (2 : Int32)), (.ref bc)]) (fun t' k => XS.iadd X11.here hx rfl (hb hby own_dA_68) rfl k) ?_
  refine X11.stI hx hZ e11 A_bc g_bc 2 (by decide) (Nat.le_of_ble_eq_true rfl) (hb hby own_dA_69) ?_
  intro T12 h12 X12 e12 W12 A12
  replace A_bc : own_A Z h12 .int bc [(.int k0), (.int k1), (.int (k2 + (-1 : Int32))), (.int k3), (.int k4), (.int k5), (.int k6)] := A12
  clear A12
  replace E_t := E_t.wr W12
  replace A_w := A_w.other W12 ne_w_bc
  replace A_bp := A_bp.other W12 ne_bp_bc
  replace A_bs := A_bs.other W12 ne_bs_bc
  replace F_weights := F_weights.other W12 (Or.inl ne_t_bc)
  replace F_present := F_present.other W12 (Or.inl ne_t_bc)
  replace F_sums := F_sums.other W12 (Or.inl ne_t_bc)
  replace F_counts := F_counts.other W12 (Or.inl ne_t_bc)
  replace F_top := F_top.other W12 (Or.inl ne_t_bc)
  replace F_rising := F_rising.other W12 (Or.inl ne_t_bc)
  replace F_total := F_total.other W12 (Or.inl ne_t_bc)
  replace F_taking := F_taking.other W12 (Or.inl ne_t_bc)
  replace F_rc := F_rc.other W12 (Or.inl ne_t_bc)
  replace hn := Nat.le_trans hn (Keep.of_wr W12).1
  clear W12 X11 e11
  refine own_go (mkF m 72 #[rv t, iv (1 : Int32), jv x, .second, iv (-1 : Int32), jv (0 : Int64), .second, iv (2 : Int32)] [(.long (0 : Int64))]) (fun t' k => XS.lload X12.here hx rfl (hb hby own_dA_70) rfl  k) ?_
  refine own_go (mkF m 73 #[rv t, iv (1 : Int32), jv x, .second, iv (-1 : Int32), jv (0 : Int64), .second, iv (2 : Int32)] [(.long (0 : Int64)), (.long (0 : Int64))]) (fun t' k => XS.lconst X12.here hx rfl (hb hby own_dA_72) k) ?_
  refine own_go (mkF m 74 #[rv t, iv (1 : Int32), jv x, .second, iv (-1 : Int32), jv (0 : Int64), .second, iv (2 : Int32)] [(.int (lcmpW (0 : Int64) (0 : Int64)))]) (fun t' k => XS.lcmp X12.here hx rfl (hb hby own_dA_73) rfl k) ?_
  refine own_go (mkF m 89 #[rv t, iv (1 : Int32), jv x, .second, iv (-1 : Int32), jv (0 : Int64), .second, iv (2 : Int32)] []) (fun t' k => XS.ifYes X12.here hx rfl (pc0 := 74) (pc' := 89) rfl (hb hby own_dA_74) rfl ((if0 _ _).trans (teq ((lw_eq (0 : Int64) (0 : Int64)).mpr (by decide : (0 : Int64) = (0 : Int64)))).1) (by decide) (by decide) k) ?_
  refine own_go (mkF m 91 #[rv t, iv (1 : Int32), jv x, .second, iv (-1 : Int32), jv (0 : Int64), .second, iv (2 : Int32)] [(.int (2 : Int32))]) (fun t' k => XS.iload X12.here hx rfl (hb hby own_dA_89) rfl  k) ?_
  refine own_go (mkF m 93 #[rv t, iv (1 : Int32), jv x, .second, iv (-1 : Int32), jv (0 : Int64), .second, iv (2 : Int32)] [(.int (2 : Int32)), (.int (2 : Int32))]) (fun t' k => XS.iload X12.here hx rfl (hb hby own_dA_91) rfl  k) ?_
  refine own_go (mkF m 95 #[rv t, iv (1 : Int32), jv x, .second, iv (-1 : Int32), jv (0 : Int64), .second, iv (2 : Int32)] [(.int (2 : Int32)), (.int (2 : Int32)), (.int (2 : Int32))]) (fun t' k => XS.iload X12.here hx rfl (hb hby own_dA_93) rfl  k) ?_
  refine own_go (mkF m 96 #[rv t, iv (1 : Int32), jv x, .second, iv (-1 : Int32), jv (0 : Int64), .second, iv (2 : Int32)] [(.int (-2 : Int32)), (.int (2 : Int32)), (.int (2 : Int32))]) (fun t' k => XS.ineg X12.here hx rfl (hb hby own_dA_95) rfl k) ?_
  refine own_go (mkF m 97 #[rv t, iv (1 : Int32), jv x, .second, iv (-1 : Int32), jv (0 : Int64), .second, iv (2 : Int32)] [(.int (2 : Int32)), (.int (2 : Int32))]) (fun t' k => XS.iand X12.here hx rfl (hb hby own_dA_96) rfl k) ?_
  refine own_go (mkF m 98 #[rv t, iv (1 : Int32), jv x, .second, iv (-1 : Int32), jv (0 : Int64), .second, iv (2 : Int32)] [(.int (4 : Int32))]) (fun t' k => XS.iadd X12.here hx rfl (hb hby own_dA_97) rfl k) ?_
  refine own_go (mkF m 100 #[rv t, iv (1 : Int32), jv x, .second, iv (-1 : Int32), jv (0 : Int64), .second, iv (4 : Int32)] []) (fun t' k => XS.istore X12.here hx rfl (hb hby own_dA_98) rfl (l' := #[rv t, iv (1 : Int32), jv x, .second, iv (-1 : Int32), jv (0 : Int64), .second, iv (4 : Int32)]) rfl k) ?_
  refine own_go (mkF m 37 #[rv t, iv (1 : Int32), jv x, .second, iv (-1 : Int32), jv (0 : Int64), .second, iv (4 : Int32)] []) (fun t' k => XS.goto X12.here hx rfl (pc0 := 100) (pc' := 37) rfl (hb hby own_dA_100) (by decide) (by decide) k) ?_
  refine own_go (mkF m 39 #[rv t, iv (1 : Int32), jv x, .second, iv (-1 : Int32), jv (0 : Int64), .second, iv (4 : Int32)] [(.int (4 : Int32))]) (fun t' k => XS.iload X12.here hx rfl (hb hby own_dA_37) rfl  k) ?_
  refine own_go (mkF m 40 #[rv t, iv (1 : Int32), jv x, .second, iv (-1 : Int32), jv (0 : Int64), .second, iv (4 : Int32)] [(.ref t), (.int (4 : Int32))]) (fun t' k => XS.aloadN X12.here hx rfl (hb hby own_dA_39) rfl rfl  k) ?_
  refine X12.getF hx hZ hown (hw _ (List.mem_of_getElem? (i := 18) rfl)) e12 F_sums (hb hby own_dA_40) ?_
  intro T13 X13 e13
  refine X13.aleno hx hZ e13 A_bs (hb hby own_dA_43) ?_
  show own_G p e below s _ _ _ T13 (mkF m 44 #[rv t, iv (1 : Int32), jv x, .second, iv (-1 : Int32), jv (0 : Int64), .second, iv (4 : Int32)] [(.int (7 : Int32)), (.int (4 : Int32))])
  refine own_go (mkF m 47 #[rv t, iv (1 : Int32), jv x, .second, iv (-1 : Int32), jv (0 : Int64), .second, iv (4 : Int32)] []) (fun t' k => XS.icmpNo X13.here hx rfl (hb hby own_dA_44) rfl (tlt (by decide)).2.1 k) ?_
  refine own_go (mkF m 48 #[rv t, iv (1 : Int32), jv x, .second, iv (-1 : Int32), jv (0 : Int64), .second, iv (4 : Int32)] [(.ref t)]) (fun t' k => XS.aloadN X13.here hx rfl (hb hby own_dA_47) rfl rfl  k) ?_
  refine X13.getF hx hZ hown (hw _ (List.mem_of_getElem? (i := 18) rfl)) e13 F_sums (hb hby own_dA_48) ?_
  intro T14 X14 e14
  refine own_go (mkF m 53 #[rv t, iv (1 : Int32), jv x, .second, iv (-1 : Int32), jv (0 : Int64), .second, iv (4 : Int32)] [(.int (4 : Int32)), (.ref bs)]) (fun t' k => XS.iload X14.here hx rfl (hb hby own_dA_51) rfl  k) ?_
  refine own_go (mkF m 54 #[rv t, iv (1 : Int32), jv x, .second, iv (-1 : Int32), jv (0 : Int64), .second, iv (4 : Int32)] [(.int (4 : Int32)), (.ref bs), (.int (4 : Int32)), (.ref bs)]) (fun t' k => Jvm.Free.XT.dup2 X14.here hx rfl (hb hby own_dA_53) rfl rfl rfl k) ?_
  refine X14.ldJo hx hZ e14 A_bs 4 (by decide) (by decide) (hb hby own_dA_54) ?_
  rintro _ ⟨y15, rfl⟩
  refine own_go (mkF m 56 #[rv t, iv (1 : Int32), jv x, .second, iv (-1 : Int32), jv (0 : Int64), .second, iv (4 : Int32)] [(.long x), (.long y15), (.int (4 : Int32)), (.ref bs)]) (fun t' k => XS.lloadN X14.here hx rfl (hb hby own_dA_55) rfl  k) ?_
  refine own_go (mkF m 57 #[rv t, iv (1 : Int32), jv x, .second, iv (-1 : Int32), jv (0 : Int64), .second, iv (4 : Int32)] [(.long (y15 + x)), (.int (4 : Int32)), (.ref bs)]) (fun t' k => XS.ladd X14.here hx rfl (hb hby own_dA_56) rfl k) ?_
  refine X14.stJo hx hZ e14 A_bs g_bs 4 (by decide) (by decide) ⟨_, rfl⟩ (hb hby own_dA_57) ?_
  intro T16 h16 X16 e16 W16 A16
  replace A_bs := A16
  replace E_t := E_t.wr W16
  replace A_w := A_w.other W16 ne_w_bs
  replace A_bp := A_bp.other W16 ne_bp_bs
  replace A_bc := A_bc.other W16 (Ne.symm ne_bs_bc)
  replace F_weights := F_weights.other W16 (Or.inl ne_t_bs)
  replace F_present := F_present.other W16 (Or.inl ne_t_bs)
  replace F_sums := F_sums.other W16 (Or.inl ne_t_bs)
  replace F_counts := F_counts.other W16 (Or.inl ne_t_bs)
  replace F_top := F_top.other W16 (Or.inl ne_t_bs)
  replace F_rising := F_rising.other W16 (Or.inl ne_t_bs)
  replace F_total := F_total.other W16 (Or.inl ne_t_bs)
  replace F_taking := F_taking.other W16 (Or.inl ne_t_bs)
  replace F_rc := F_rc.other W16 (Or.inl ne_t_bs)
  replace hn := Nat.le_trans hn (Keep.of_wr W16).1
  clear W16 X14 e14
  refine own_go (mkF m 59 #[rv t, iv (1 : Int32), jv x, .second, iv (-1 : Int32), jv (0 : Int64), .second, iv (4 : Int32)] [(.ref t)]) (fun t' k => XS.aloadN X16.here hx rfl (hb hby own_dA_58) rfl rfl  k) ?_
  refine X16.getF hx hZ hown (hw _ (List.mem_of_getElem? (i := 21) rfl)) e16 F_counts (hb hby own_dA_59) ?_
  intro T17 X17 e17
  refine own_go (mkF m 64 #[rv t, iv (1 : Int32), jv x, .second, iv (-1 : Int32), jv (0 : Int64), .second, iv (4 : Int32)] [(.int (4 : Int32)), (.ref bc)]) (fun t' k => XS.iload X17.here hx rfl (hb hby own_dA_62) rfl  k) ?_
  refine own_go (mkF m 65 #[rv t, iv (1 : Int32), jv x, .second, iv (-1 : Int32), jv (0 : Int64), .second, iv (4 : Int32)] [(.int (4 : Int32)), (.ref bc), (.int (4 : Int32)), (.ref bc)]) (fun t' k => Jvm.Free.XT.dup2 X17.here hx rfl (hb hby own_dA_64) rfl rfl rfl k) ?_
  refine X17.ldI hx hZ e17 A_bc (v := (.int k4)) 4 (by decide) rfl (hb hby own_dA_65) ?_
  refine own_go (mkF m 68 #[rv t, iv (1 : Int32), jv x, .second, iv (-1 : Int32), jv (0 : Int64), .second, iv (4 : Int32)] [(.int (-1 : Int32)), (.int k4), (.int (4 : Int32)), (.ref bc)]) (fun t' k => XS.iload X17.here hx rfl (hb hby own_dA_66) rfl  k) ?_
  refine own_go (mkF m 69 #[rv t, iv (1 : Int32), jv x, .second, iv (-1 : Int32), jv (0 : Int64), .second, iv (4 : Int32)] [(.int (k4 + (-1 : Int32))), (.int (4 : Int32)), (.ref bc)]) (fun t' k => XS.iadd X17.here hx rfl (hb hby own_dA_68) rfl k) ?_
  refine X17.stI hx hZ e17 A_bc g_bc 4 (by decide) (Nat.le_of_ble_eq_true rfl) (hb hby own_dA_69) ?_
  intro T18 h18 X18 e18 W18 A18
  replace A_bc : own_A Z h18 .int bc [(.int k0), (.int k1), (.int (k2 + (-1 : Int32))), (.int k3), (.int (k4 + (-1 : Int32))), (.int k5), (.int k6)] := A18
  clear A18
  replace E_t := E_t.wr W18
  replace A_w := A_w.other W18 ne_w_bc
  replace A_bp := A_bp.other W18 ne_bp_bc
  replace A_bs := A_bs.other W18 ne_bs_bc
  replace F_weights := F_weights.other W18 (Or.inl ne_t_bc)
  replace F_present := F_present.other W18 (Or.inl ne_t_bc)
  replace F_sums := F_sums.other W18 (Or.inl ne_t_bc)
  replace F_counts := F_counts.other W18 (Or.inl ne_t_bc)
  replace F_top := F_top.other W18 (Or.inl ne_t_bc)
  replace F_rising := F_rising.other W18 (Or.inl ne_t_bc)
  replace F_total := F_total.other W18 (Or.inl ne_t_bc)
  replace F_taking := F_taking.other W18 (Or.inl ne_t_bc)
  replace F_rc := F_rc.other W18 (Or.inl ne_t_bc)
  replace hn := Nat.le_trans hn (Keep.of_wr W18).1
  clear W18 X17 e17
  refine own_go (mkF m 72 #[rv t, iv (1 : Int32), jv x, .second, iv (-1 : Int32), jv (0 : Int64), .second, iv (4 : Int32)] [(.long (0 : Int64))]) (fun t' k => XS.lload X18.here hx rfl (hb hby own_dA_70) rfl  k) ?_
  refine own_go (mkF m 73 #[rv t, iv (1 : Int32), jv x, .second, iv (-1 : Int32), jv (0 : Int64), .second, iv (4 : Int32)] [(.long (0 : Int64)), (.long (0 : Int64))]) (fun t' k => XS.lconst X18.here hx rfl (hb hby own_dA_72) k) ?_
  refine own_go (mkF m 74 #[rv t, iv (1 : Int32), jv x, .second, iv (-1 : Int32), jv (0 : Int64), .second, iv (4 : Int32)] [(.int (lcmpW (0 : Int64) (0 : Int64)))]) (fun t' k => XS.lcmp X18.here hx rfl (hb hby own_dA_73) rfl k) ?_
  refine own_go (mkF m 89 #[rv t, iv (1 : Int32), jv x, .second, iv (-1 : Int32), jv (0 : Int64), .second, iv (4 : Int32)] []) (fun t' k => XS.ifYes X18.here hx rfl (pc0 := 74) (pc' := 89) rfl (hb hby own_dA_74) rfl ((if0 _ _).trans (teq ((lw_eq (0 : Int64) (0 : Int64)).mpr (by decide : (0 : Int64) = (0 : Int64)))).1) (by decide) (by decide) k) ?_
  refine own_go (mkF m 91 #[rv t, iv (1 : Int32), jv x, .second, iv (-1 : Int32), jv (0 : Int64), .second, iv (4 : Int32)] [(.int (4 : Int32))]) (fun t' k => XS.iload X18.here hx rfl (hb hby own_dA_89) rfl  k) ?_
  refine own_go (mkF m 93 #[rv t, iv (1 : Int32), jv x, .second, iv (-1 : Int32), jv (0 : Int64), .second, iv (4 : Int32)] [(.int (4 : Int32)), (.int (4 : Int32))]) (fun t' k => XS.iload X18.here hx rfl (hb hby own_dA_91) rfl  k) ?_
  refine own_go (mkF m 95 #[rv t, iv (1 : Int32), jv x, .second, iv (-1 : Int32), jv (0 : Int64), .second, iv (4 : Int32)] [(.int (4 : Int32)), (.int (4 : Int32)), (.int (4 : Int32))]) (fun t' k => XS.iload X18.here hx rfl (hb hby own_dA_93) rfl  k) ?_
  refine own_go (mkF m 96 #[rv t, iv (1 : Int32), jv x, .second, iv (-1 : Int32), jv (0 : Int64), .second, iv (4 : Int32)] [(.int (-4 : Int32)), (.int (4 : Int32)), (.int (4 : Int32))]) (fun t' k => XS.ineg X18.here hx rfl (hb hby own_dA_95) rfl k) ?_
  refine own_go (mkF m 97 #[rv t, iv (1 : Int32), jv x, .second, iv (-1 : Int32), jv (0 : Int64), .second, iv (4 : Int32)] [(.int (4 : Int32)), (.int (4 : Int32))]) (fun t' k => XS.iand X18.here hx rfl (hb hby own_dA_96) rfl k) ?_
  refine own_go (mkF m 98 #[rv t, iv (1 : Int32), jv x, .second, iv (-1 : Int32), jv (0 : Int64), .second, iv (4 : Int32)] [(.int (8 : Int32))]) (fun t' k => XS.iadd X18.here hx rfl (hb hby own_dA_97) rfl k) ?_
  refine own_go (mkF m 100 #[rv t, iv (1 : Int32), jv x, .second, iv (-1 : Int32), jv (0 : Int64), .second, iv (8 : Int32)] []) (fun t' k => XS.istore X18.here hx rfl (hb hby own_dA_98) rfl (l' := #[rv t, iv (1 : Int32), jv x, .second, iv (-1 : Int32), jv (0 : Int64), .second, iv (8 : Int32)]) rfl k) ?_
  refine own_go (mkF m 37 #[rv t, iv (1 : Int32), jv x, .second, iv (-1 : Int32), jv (0 : Int64), .second, iv (8 : Int32)] []) (fun t' k => XS.goto X18.here hx rfl (pc0 := 100) (pc' := 37) rfl (hb hby own_dA_100) (by decide) (by decide) k) ?_
  refine own_go (mkF m 39 #[rv t, iv (1 : Int32), jv x, .second, iv (-1 : Int32), jv (0 : Int64), .second, iv (8 : Int32)] [(.int (8 : Int32))]) (fun t' k => XS.iload X18.here hx rfl (hb hby own_dA_37) rfl  k) ?_
  refine own_go (mkF m 40 #[rv t, iv (1 : Int32), jv x, .second, iv (-1 : Int32), jv (0 : Int64), .second, iv (8 : Int32)] [(.ref t), (.int (8 : Int32))]) (fun t' k => XS.aloadN X18.here hx rfl (hb hby own_dA_39) rfl rfl  k) ?_
  refine X18.getF hx hZ hown (hw _ (List.mem_of_getElem? (i := 18) rfl)) e18 F_sums (hb hby own_dA_40) ?_
  intro T19 X19 e19
  refine X19.aleno hx hZ e19 A_bs (hb hby own_dA_43) ?_
  show own_G p e below s _ _ _ T19 (mkF m 44 #[rv t, iv (1 : Int32), jv x, .second, iv (-1 : Int32), jv (0 : Int64), .second, iv (8 : Int32)] [(.int (7 : Int32)), (.int (8 : Int32))])
  refine own_go (mkF m 103 #[rv t, iv (1 : Int32), jv x, .second, iv (-1 : Int32), jv (0 : Int64), .second, iv (8 : Int32)] []) (fun t' k => XS.icmpYes X19.here hx rfl (pc0 := 44) (pc' := 103) rfl (hb hby own_dA_44) rfl (flt (by decide)).2.1 (by decide) (by decide) k) ?_
  refine X19.retV hx hlk hret (hb hby own_dA_103) ?_ (by decide) (by decide)
  rw [e19]
  exact ⟨rfl, ⟨⟨hn, g_t, g_bp, g_bs, g_bc⟩, ⟨ne_t_w, ne_t_bp, ne_t_bs, ne_t_bc, ne_w_bp, ne_w_bs, ne_w_bc, ne_bp_bs, ne_bp_bc, ne_bs_bc⟩, ⟨E_t, A_w, A_bp, A_bs, A_bc⟩, ⟨F_weights, F_present, F_sums, F_counts, F_top, F_rising⟩, _, _, _, F_total, F_taking, F_rc⟩⟩

theorem own_pn_own_rmA2 : plainFor (⟨"com/example/load_across_peers/loadacrosspeers/internal/pick/WeightTree", "add", "(IJIJ)V"⟩ : MethodName) = true := plainFor_of_name (show plainName "com/example/load_across_peers/loadacrosspeers/internal/pick/WeightTree" = true by first | (simp [plainName, overriddenIn]; done) | decide +kernel)
set_option maxRecDepth 65536 in
set_option maxHeartbeats 40000000 in
theorem own_rmA2 (l : Launch) (Z : State) (a0 : Array Value) (hw : ∀ d ∈ tables_1, d.before a0 Z = true) (ws : List Jvm.Cond) (h0 : Heap) (n0 : Nat) (t w bp bs bc : Addr) (k0 k1 k2 k3 k4 k5 k6 : Int32) (HT : own_T Z h0 n0 t w bp bs bc [(.int k0), (.int k1), (.int k2), (.int k3), (.int k4), (.int k5), (.int k6)]) (x : Int64)  :
    own_C l Z (⟨"com/example/load_across_peers/loadacrosspeers/internal/pick/WeightTree", "add", "(IJIJ)V"⟩ : MethodName) prog_32_method_13_code 8 none ws ({ frames := 0, cells := 0, slots := 0, locals := 0 } : Room) #[(.ref t), (.int (2 : Int32)), (.long x), (.int (-1 : Int32)), (.long (0 : Int64))] h0 (own_Q n0 (fun v h => v = none ∧ own_T Z h n0 t w bp bs bc [(.int k0), (.int k1), (.int k2), (.int (k3 + (-1 : Int32))), (.int (k4 + (-1 : Int32))), (.int k5), (.int k6)])) := by
  refine own_met own_pn_own_rmA2 #[rv t, iv (2 : Int32), jv x, .second, iv (-1 : Int32), jv (0 : Int64), .second, .unset] (fun m => by first | (simp [entryFrame, mkF, argsToLocals, Value.category]; done) | rfl) ?_
  intro p e s m below meth c s₁ hx hby hml hown hret hlk hZ hnm X0 e0
  replace X0 := own_S.of X0 (n0)
  obtain ⟨⟨hn, g_t, g_bp, g_bs, g_bc⟩, ⟨ne_t_w, ne_t_bp, ne_t_bs, ne_t_bc, ne_w_bp, ne_w_bs, ne_w_bc, ne_bp_bs, ne_bp_bc, ne_bs_bc⟩, ⟨E_t, A_w, A_bp, A_bs, A_bc⟩, ⟨F_weights, F_present, F_sums, F_counts, F_top, F_rising⟩, u1, u2, u3, F_total, F_taking, F_rc⟩ := HT
  refine own_go (mkF m 1 #[rv t, iv (2 : Int32), jv x, .second, iv (-1 : Int32), jv (0 : Int64), .second, .unset] [(.ref t)]) (fun t' k => XS.aloadN X0.here hx rfl (hb hby own_dA_0) rfl rfl  k) ?_
  refine own_go (mkF m 2 #[rv t, iv (2 : Int32), jv x, .second, iv (-1 : Int32), jv (0 : Int64), .second, .unset] [(.ref t), (.ref t)]) (fun t' k => XS.dup X0.here hx rfl (hb hby own_dA_1) rfl rfl k) ?_
  refine X0.getF hx hZ hown (hw _ (List.mem_of_getElem? (i := 34) rfl)) e0 F_total (hb hby own_dA_2) ?_
  intro T1 X1 e1
  refine own_go (mkF m 6 #[rv t, iv (2 : Int32), jv x, .second, iv (-1 : Int32), jv (0 : Int64), .second, .unset] [(.long x), (.long u1), (.ref t)]) (fun t' k => XS.lloadN X1.here hx rfl (hb hby own_dA_5) rfl  k) ?_
  refine own_go (mkF m 7 #[rv t, iv (2 : Int32), jv x, .second, iv (-1 : Int32), jv (0 : Int64), .second, .unset] [(.long (u1 + x)), (.ref t)]) (fun t' k => XS.ladd X1.here hx rfl (hb hby own_dA_6) rfl k) ?_
  refine X1.putF hx hZ hown (hw _ (List.mem_of_getElem? (i := 34) rfl)) e1 F_total E_t g_t (Or.inl (hw _ (List.mem_of_getElem? (i := 35) rfl))) (hw _ (List.mem_of_getElem? (i := 2) rfl)) (ty := .long) (by decide) rfl rfl (hb hby own_dA_7) ?_
  intro T2 h2 X2 e2 W2
  replace E_t := E_t.wr W2
  replace A_w := A_w.other W2 (Ne.symm ne_t_w)
  replace A_bp := A_bp.other W2 (Ne.symm ne_t_bp)
  replace A_bs := A_bs.other W2 (Ne.symm ne_t_bs)
  replace A_bc := A_bc.other W2 (Ne.symm ne_t_bc)
  replace F_weights := F_weights.other W2 (Or.inr (own_sn_WeightTree_weights_total hw))
  replace F_present := F_present.other W2 (Or.inr (own_sn_WeightTree_present_total hw))
  replace F_sums := F_sums.other W2 (Or.inr (own_sn_WeightTree_sums_total hw))
  replace F_counts := F_counts.other W2 (Or.inr (own_sn_WeightTree_counts_total hw))
  replace F_top := F_top.other W2 (Or.inr (own_sn_WeightTree_top_total hw))
  replace F_rising := F_rising.other W2 (Or.inr (own_sn_WeightTree_rising_total hw))
  replace F_total := F_total.same W2
  replace F_taking := F_taking.other W2 (Or.inr (own_sn_WeightTree_taking_total hw))
  replace F_rc := F_rc.other W2 (Or.inr (own_sn_WeightTree_risingCount_total hw))
  replace hn := Nat.le_trans hn (Keep.of_wr W2).1
  clear W2 X1 e1
  generalize (u1 + x) = ug2 at F_total
  refine own_go (mkF m 11 #[rv t, iv (2 : Int32), jv x, .second, iv (-1 : Int32), jv (0 : Int64), .second, .unset] [(.ref t)]) (fun t' k => XS.aloadN X2.here hx rfl (hb hby own_dA_10) rfl rfl  k) ?_
  refine own_go (mkF m 12 #[rv t, iv (2 : Int32), jv x, .second, iv (-1 : Int32), jv (0 : Int64), .second, .unset] [(.ref t), (.ref t)]) (fun t' k => XS.dup X2.here hx rfl (hb hby own_dA_11) rfl rfl k) ?_
  refine X2.getF hx hZ hown (hw _ (List.mem_of_getElem? (i := 36) rfl)) e2 F_taking (hb hby own_dA_12) ?_
  intro T3 X3 e3
  refine own_go (mkF m 17 #[rv t, iv (2 : Int32), jv x, .second, iv (-1 : Int32), jv (0 : Int64), .second, .unset] [(.int (-1 : Int32)), (.int u2), (.ref t)]) (fun t' k => XS.iload X3.here hx rfl (hb hby own_dA_15) rfl  k) ?_
  refine own_go (mkF m 18 #[rv t, iv (2 : Int32), jv x, .second, iv (-1 : Int32), jv (0 : Int64), .second, .unset] [(.int (u2 + (-1 : Int32))), (.ref t)]) (fun t' k => XS.iadd X3.here hx rfl (hb hby own_dA_17) rfl k) ?_
  refine X3.putF hx hZ hown (hw _ (List.mem_of_getElem? (i := 36) rfl)) e3 F_taking E_t g_t (Or.inl (hw _ (List.mem_of_getElem? (i := 37) rfl))) (hw _ (List.mem_of_getElem? (i := 2) rfl)) (ty := .int) (by decide) rfl rfl (hb hby own_dA_18) ?_
  intro T4 h4 X4 e4 W4
  replace E_t := E_t.wr W4
  replace A_w := A_w.other W4 (Ne.symm ne_t_w)
  replace A_bp := A_bp.other W4 (Ne.symm ne_t_bp)
  replace A_bs := A_bs.other W4 (Ne.symm ne_t_bs)
  replace A_bc := A_bc.other W4 (Ne.symm ne_t_bc)
  replace F_weights := F_weights.other W4 (Or.inr (own_sn_WeightTree_weights_taking hw))
  replace F_present := F_present.other W4 (Or.inr (own_sn_WeightTree_present_taking hw))
  replace F_sums := F_sums.other W4 (Or.inr (own_sn_WeightTree_sums_taking hw))
  replace F_counts := F_counts.other W4 (Or.inr (own_sn_WeightTree_counts_taking hw))
  replace F_top := F_top.other W4 (Or.inr (own_sn_WeightTree_top_taking hw))
  replace F_rising := F_rising.other W4 (Or.inr (own_sn_WeightTree_rising_taking hw))
  replace F_total := F_total.other W4 (Or.inr (own_sn_WeightTree_total_taking hw))
  replace F_taking := F_taking.same W4
  replace F_rc := F_rc.other W4 (Or.inr (own_sn_WeightTree_risingCount_taking hw))
  replace hn := Nat.le_trans hn (Keep.of_wr W4).1
  clear W4 X3 e3
  generalize (u2 + (-1 : Int32)) = ug4 at F_taking
  refine own_go (mkF m 22 #[rv t, iv (2 : Int32), jv x, .second, iv (-1 : Int32), jv (0 : Int64), .second, .unset] [(.ref t)]) (fun t' k => XS.aloadN X4.here hx rfl (hb hby own_dA_21) rfl rfl  k) ?_
  refine own_go (mkF m 23 #[rv t, iv (2 : Int32), jv x, .second, iv (-1 : Int32), jv (0 : Int64), .second, .unset] [(.ref t), (.ref t)]) (fun t' k => XS.dup X4.here hx rfl (hb hby own_dA_22) rfl rfl k) ?_
  refine X4.getF hx hZ hown (hw _ (List.mem_of_getElem? (i := 59) rfl)) e4 F_rc (hb hby own_dA_23) ?_
  intro T5 X5 e5
  refine own_go (mkF m 28 #[rv t, iv (2 : Int32), jv x, .second, iv (-1 : Int32), jv (0 : Int64), .second, .unset] [(.long (0 : Int64)), (.long u3), (.ref t)]) (fun t' k => XS.lload X5.here hx rfl (hb hby own_dA_26) rfl  k) ?_
  refine own_go (mkF m 29 #[rv t, iv (2 : Int32), jv x, .second, iv (-1 : Int32), jv (0 : Int64), .second, .unset] [(.long (u3 + (0 : Int64))), (.ref t)]) (fun t' k => XS.ladd X5.here hx rfl (hb hby own_dA_28) rfl k) ?_
  refine X5.putF hx hZ hown (hw _ (List.mem_of_getElem? (i := 59) rfl)) e5 F_rc E_t g_t (Or.inl (hw _ (List.mem_of_getElem? (i := 60) rfl))) (hw _ (List.mem_of_getElem? (i := 2) rfl)) (ty := .long) (by decide) rfl rfl (hb hby own_dA_29) ?_
  intro T6 h6 X6 e6 W6
  replace E_t := E_t.wr W6
  replace A_w := A_w.other W6 (Ne.symm ne_t_w)
  replace A_bp := A_bp.other W6 (Ne.symm ne_t_bp)
  replace A_bs := A_bs.other W6 (Ne.symm ne_t_bs)
  replace A_bc := A_bc.other W6 (Ne.symm ne_t_bc)
  replace F_weights := F_weights.other W6 (Or.inr (own_sn_WeightTree_weights_risingCount hw))
  replace F_present := F_present.other W6 (Or.inr (own_sn_WeightTree_present_risingCount hw))
  replace F_sums := F_sums.other W6 (Or.inr (own_sn_WeightTree_sums_risingCount hw))
  replace F_counts := F_counts.other W6 (Or.inr (own_sn_WeightTree_counts_risingCount hw))
  replace F_top := F_top.other W6 (Or.inr (own_sn_WeightTree_top_risingCount hw))
  replace F_rising := F_rising.other W6 (Or.inr (own_sn_WeightTree_rising_risingCount hw))
  replace F_total := F_total.other W6 (Or.inr (own_sn_WeightTree_total_risingCount hw))
  replace F_taking := F_taking.other W6 (Or.inr (own_sn_WeightTree_taking_risingCount hw))
  replace F_rc := F_rc.same W6
  replace hn := Nat.le_trans hn (Keep.of_wr W6).1
  clear W6 X5 e5
  generalize (u3 + (0 : Int64)) = ug6 at F_rc
  refine own_go (mkF m 33 #[rv t, iv (2 : Int32), jv x, .second, iv (-1 : Int32), jv (0 : Int64), .second, .unset] [(.int (2 : Int32))]) (fun t' k => XS.iloadN X6.here hx rfl (hb hby own_dA_32) rfl  k) ?_
  refine own_go (mkF m 34 #[rv t, iv (2 : Int32), jv x, .second, iv (-1 : Int32), jv (0 : Int64), .second, .unset] [(.int (1 : Int32)), (.int (2 : Int32))]) (fun t' k => XS.iconst X6.here hx rfl (hb hby own_dA_33) k) ?_
  refine own_go (mkF m 35 #[rv t, iv (2 : Int32), jv x, .second, iv (-1 : Int32), jv (0 : Int64), .second, .unset] [(.int (3 : Int32))]) (fun t' k => XS.iadd X6.here hx rfl (hb hby own_dA_34) rfl k) ?_
  refine own_go (mkF m 37 #[rv t, iv (2 : Int32), jv x, .second, iv (-1 : Int32), jv (0 : Int64), .second, iv (3 : Int32)] []) (fun t' k => XS.istore X6.here hx rfl (hb hby own_dA_35) rfl (l' := #[rv t, iv (2 : Int32), jv x, .second, iv (-1 : Int32), jv (0 : Int64), .second, iv (3 : Int32)]) rfl k) ?_
  refine own_go (mkF m 39 #[rv t, iv (2 : Int32), jv x, .second, iv (-1 : Int32), jv (0 : Int64), .second, iv (3 : Int32)] [(.int (3 : Int32))]) (fun t' k => XS.iload X6.here hx rfl (hb hby own_dA_37) rfl  k) ?_
  refine own_go (mkF m 40 #[rv t, iv (2 : Int32), jv x, .second, iv (-1 : Int32), jv (0 : Int64), .second, iv (3 : Int32)] [(.ref t), (.int (3 : Int32))]) (fun t' k => XS.aloadN X6.here hx rfl (hb hby own_dA_39) rfl rfl  k) ?_
  refine X6.getF hx hZ hown (hw _ (List.mem_of_getElem? (i := 18) rfl)) e6 F_sums (hb hby own_dA_40) ?_
  intro T7 X7 e7
  refine X7.aleno hx hZ e7 A_bs (hb hby own_dA_43) ?_
  show own_G p e below s _ _ _ T7 (mkF m 44 #[rv t, iv (2 : Int32), jv x, .second, iv (-1 : Int32), jv (0 : Int64), .second, iv (3 : Int32)] [(.int (7 : Int32)), (.int (3 : Int32))])
  refine own_go (mkF m 47 #[rv t, iv (2 : Int32), jv x, .second, iv (-1 : Int32), jv (0 : Int64), .second, iv (3 : Int32)] []) (fun t' k => XS.icmpNo X7.here hx rfl (hb hby own_dA_44) rfl (tlt (by decide)).2.1 k) ?_
  refine own_go (mkF m 48 #[rv t, iv (2 : Int32), jv x, .second, iv (-1 : Int32), jv (0 : Int64), .second, iv (3 : Int32)] [(.ref t)]) (fun t' k => XS.aloadN X7.here hx rfl (hb hby own_dA_47) rfl rfl  k) ?_
  refine X7.getF hx hZ hown (hw _ (List.mem_of_getElem? (i := 18) rfl)) e7 F_sums (hb hby own_dA_48) ?_
  intro T8 X8 e8
  refine own_go (mkF m 53 #[rv t, iv (2 : Int32), jv x, .second, iv (-1 : Int32), jv (0 : Int64), .second, iv (3 : Int32)] [(.int (3 : Int32)), (.ref bs)]) (fun t' k => XS.iload X8.here hx rfl (hb hby own_dA_51) rfl  k) ?_
  refine own_go (mkF m 54 #[rv t, iv (2 : Int32), jv x, .second, iv (-1 : Int32), jv (0 : Int64), .second, iv (3 : Int32)] [(.int (3 : Int32)), (.ref bs), (.int (3 : Int32)), (.ref bs)]) (fun t' k => Jvm.Free.XT.dup2 X8.here hx rfl (hb hby own_dA_53) rfl rfl rfl k) ?_
  refine X8.ldJo hx hZ e8 A_bs 3 (by decide) (by decide) (hb hby own_dA_54) ?_
  rintro _ ⟨y9, rfl⟩
  refine own_go (mkF m 56 #[rv t, iv (2 : Int32), jv x, .second, iv (-1 : Int32), jv (0 : Int64), .second, iv (3 : Int32)] [(.long x), (.long y9), (.int (3 : Int32)), (.ref bs)]) (fun t' k => XS.lloadN X8.here hx rfl (hb hby own_dA_55) rfl  k) ?_
  refine own_go (mkF m 57 #[rv t, iv (2 : Int32), jv x, .second, iv (-1 : Int32), jv (0 : Int64), .second, iv (3 : Int32)] [(.long (y9 + x)), (.int (3 : Int32)), (.ref bs)]) (fun t' k => XS.ladd X8.here hx rfl (hb hby own_dA_56) rfl k) ?_
  refine X8.stJo hx hZ e8 A_bs g_bs 3 (by decide) (by decide) ⟨_, rfl⟩ (hb hby own_dA_57) ?_
  intro T10 h10 X10 e10 W10 A10
  replace A_bs := A10
  replace E_t := E_t.wr W10
  replace A_w := A_w.other W10 ne_w_bs
  replace A_bp := A_bp.other W10 ne_bp_bs
  replace A_bc := A_bc.other W10 (Ne.symm ne_bs_bc)
  replace F_weights := F_weights.other W10 (Or.inl ne_t_bs)
  replace F_present := F_present.other W10 (Or.inl ne_t_bs)
  replace F_sums := F_sums.other W10 (Or.inl ne_t_bs)
  replace F_counts := F_counts.other W10 (Or.inl ne_t_bs)
  replace F_top := F_top.other W10 (Or.inl ne_t_bs)
  replace F_rising := F_rising.other W10 (Or.inl ne_t_bs)
  replace F_total := F_total.other W10 (Or.inl ne_t_bs)
  replace F_taking := F_taking.other W10 (Or.inl ne_t_bs)
  replace F_rc := F_rc.other W10 (Or.inl ne_t_bs)
  replace hn := Nat.le_trans hn (Keep.of_wr W10).1
  clear W10 X8 e8
  refine own_go (mkF m 59 #[rv t, iv (2 : Int32), jv x, .second, iv (-1 : Int32), jv (0 : Int64), .second, iv (3 : Int32)] [(.ref t)]) (fun t' k => XS.aloadN X10.here hx rfl (hb hby own_dA_58) rfl rfl  k) ?_
  refine X10.getF hx hZ hown (hw _ (List.mem_of_getElem? (i := 21) rfl)) e10 F_counts (hb hby own_dA_59) ?_
  intro T11 X11 e11
  refine own_go (mkF m 64 #[rv t, iv (2 : Int32), jv x, .second, iv (-1 : Int32), jv (0 : Int64), .second, iv (3 : Int32)] [(.int (3 : Int32)), (.ref bc)]) (fun t' k => XS.iload X11.here hx rfl (hb hby own_dA_62) rfl  k) ?_
  refine own_go (mkF m 65 #[rv t, iv (2 : Int32), jv x, .second, iv (-1 : Int32), jv (0 : Int64), .second, iv (3 : Int32)] [(.int (3 : Int32)), (.ref bc), (.int (3 : Int32)), (.ref bc)]) (fun t' k => Jvm.Free.XT.dup2 X11.here hx rfl (hb hby own_dA_64) rfl rfl rfl k) ?_
  refine X11.ldI hx hZ e11 A_bc (v := (.int k3)) 3 (by decide) rfl (hb hby own_dA_65) ?_
  refine own_go (mkF m 68 #[rv t, iv (2 : Int32), jv x, .second, iv (-1 : Int32), jv (0 : Int64), .second, iv (3 : Int32)] [(.int (-1 : Int32)), (.int k3), (.int (3 : Int32)), (.ref bc)]) (fun t' k => XS.iload X11.here hx rfl (hb hby own_dA_66) rfl  k) ?_
  refine own_go (mkF m 69 #[rv t, iv (2 : Int32), jv x, .second, iv (-1 : Int32), jv (0 : Int64), .second, iv (3 : Int32)] [(.int (k3 + (-1 : Int32))), (.int (3 : Int32)), (.ref bc)]) (fun t' k => XS.iadd X11.here hx rfl (hb hby own_dA_68) rfl k) ?_
  refine X11.stI hx hZ e11 A_bc g_bc 3 (by decide) (Nat.le_of_ble_eq_true rfl) (hb hby own_dA_69) ?_
  intro T12 h12 X12 e12 W12 A12
  replace A_bc : own_A Z h12 .int bc [(.int k0), (.int k1), (.int k2), (.int (k3 + (-1 : Int32))), (.int k4), (.int k5), (.int k6)] := A12
  clear A12
  replace E_t := E_t.wr W12
  replace A_w := A_w.other W12 ne_w_bc
  replace A_bp := A_bp.other W12 ne_bp_bc
  replace A_bs := A_bs.other W12 ne_bs_bc
  replace F_weights := F_weights.other W12 (Or.inl ne_t_bc)
  replace F_present := F_present.other W12 (Or.inl ne_t_bc)
  replace F_sums := F_sums.other W12 (Or.inl ne_t_bc)
  replace F_counts := F_counts.other W12 (Or.inl ne_t_bc)
  replace F_top := F_top.other W12 (Or.inl ne_t_bc)
  replace F_rising := F_rising.other W12 (Or.inl ne_t_bc)
  replace F_total := F_total.other W12 (Or.inl ne_t_bc)
  replace F_taking := F_taking.other W12 (Or.inl ne_t_bc)
  replace F_rc := F_rc.other W12 (Or.inl ne_t_bc)
  replace hn := Nat.le_trans hn (Keep.of_wr W12).1
  clear W12 X11 e11
  refine own_go (mkF m 72 #[rv t, iv (2 : Int32), jv x, .second, iv (-1 : Int32), jv (0 : Int64), .second, iv (3 : Int32)] [(.long (0 : Int64))]) (fun t' k => XS.lload X12.here hx rfl (hb hby own_dA_70) rfl  k) ?_
  refine own_go (mkF m 73 #[rv t, iv (2 : Int32), jv x, .second, iv (-1 : Int32), jv (0 : Int64), .second, iv (3 : Int32)] [(.long (0 : Int64)), (.long (0 : Int64))]) (fun t' k => XS.lconst X12.here hx rfl (hb hby own_dA_72) k) ?_
  refine own_go (mkF m 74 #[rv t, iv (2 : Int32), jv x, .second, iv (-1 : Int32), jv (0 : Int64), .second, iv (3 : Int32)] [(.int (lcmpW (0 : Int64) (0 : Int64)))]) (fun t' k => XS.lcmp X12.here hx rfl (hb hby own_dA_73) rfl k) ?_
  refine own_go (mkF m 89 #[rv t, iv (2 : Int32), jv x, .second, iv (-1 : Int32), jv (0 : Int64), .second, iv (3 : Int32)] []) (fun t' k => XS.ifYes X12.here hx rfl (pc0 := 74) (pc' := 89) rfl (hb hby own_dA_74) rfl ((if0 _ _).trans (teq ((lw_eq (0 : Int64) (0 : Int64)).mpr (by decide : (0 : Int64) = (0 : Int64)))).1) (by decide) (by decide) k) ?_
  refine own_go (mkF m 91 #[rv t, iv (2 : Int32), jv x, .second, iv (-1 : Int32), jv (0 : Int64), .second, iv (3 : Int32)] [(.int (3 : Int32))]) (fun t' k => XS.iload X12.here hx rfl (hb hby own_dA_89) rfl  k) ?_
  refine own_go (mkF m 93 #[rv t, iv (2 : Int32), jv x, .second, iv (-1 : Int32), jv (0 : Int64), .second, iv (3 : Int32)] [(.int (3 : Int32)), (.int (3 : Int32))]) (fun t' k => XS.iload X12.here hx rfl (hb hby own_dA_91) rfl  k) ?_
  refine own_go (mkF m 95 #[rv t, iv (2 : Int32), jv x, .second, iv (-1 : Int32), jv (0 : Int64), .second, iv (3 : Int32)] [(.int (3 : Int32)), (.int (3 : Int32)), (.int (3 : Int32))]) (fun t' k => XS.iload X12.here hx rfl (hb hby own_dA_93) rfl  k) ?_
  refine own_go (mkF m 96 #[rv t, iv (2 : Int32), jv x, .second, iv (-1 : Int32), jv (0 : Int64), .second, iv (3 : Int32)] [(.int (-3 : Int32)), (.int (3 : Int32)), (.int (3 : Int32))]) (fun t' k => XS.ineg X12.here hx rfl (hb hby own_dA_95) rfl k) ?_
  refine own_go (mkF m 97 #[rv t, iv (2 : Int32), jv x, .second, iv (-1 : Int32), jv (0 : Int64), .second, iv (3 : Int32)] [(.int (1 : Int32)), (.int (3 : Int32))]) (fun t' k => XS.iand X12.here hx rfl (hb hby own_dA_96) rfl k) ?_
  refine own_go (mkF m 98 #[rv t, iv (2 : Int32), jv x, .second, iv (-1 : Int32), jv (0 : Int64), .second, iv (3 : Int32)] [(.int (4 : Int32))]) (fun t' k => XS.iadd X12.here hx rfl (hb hby own_dA_97) rfl k) ?_
  refine own_go (mkF m 100 #[rv t, iv (2 : Int32), jv x, .second, iv (-1 : Int32), jv (0 : Int64), .second, iv (4 : Int32)] []) (fun t' k => XS.istore X12.here hx rfl (hb hby own_dA_98) rfl (l' := #[rv t, iv (2 : Int32), jv x, .second, iv (-1 : Int32), jv (0 : Int64), .second, iv (4 : Int32)]) rfl k) ?_
  refine own_go (mkF m 37 #[rv t, iv (2 : Int32), jv x, .second, iv (-1 : Int32), jv (0 : Int64), .second, iv (4 : Int32)] []) (fun t' k => XS.goto X12.here hx rfl (pc0 := 100) (pc' := 37) rfl (hb hby own_dA_100) (by decide) (by decide) k) ?_
  refine own_go (mkF m 39 #[rv t, iv (2 : Int32), jv x, .second, iv (-1 : Int32), jv (0 : Int64), .second, iv (4 : Int32)] [(.int (4 : Int32))]) (fun t' k => XS.iload X12.here hx rfl (hb hby own_dA_37) rfl  k) ?_
  refine own_go (mkF m 40 #[rv t, iv (2 : Int32), jv x, .second, iv (-1 : Int32), jv (0 : Int64), .second, iv (4 : Int32)] [(.ref t), (.int (4 : Int32))]) (fun t' k => XS.aloadN X12.here hx rfl (hb hby own_dA_39) rfl rfl  k) ?_
  refine X12.getF hx hZ hown (hw _ (List.mem_of_getElem? (i := 18) rfl)) e12 F_sums (hb hby own_dA_40) ?_
  intro T13 X13 e13
  refine X13.aleno hx hZ e13 A_bs (hb hby own_dA_43) ?_
  show own_G p e below s _ _ _ T13 (mkF m 44 #[rv t, iv (2 : Int32), jv x, .second, iv (-1 : Int32), jv (0 : Int64), .second, iv (4 : Int32)] [(.int (7 : Int32)), (.int (4 : Int32))])
  refine own_go (mkF m 47 #[rv t, iv (2 : Int32), jv x, .second, iv (-1 : Int32), jv (0 : Int64), .second, iv (4 : Int32)] []) (fun t' k => XS.icmpNo X13.here hx rfl (hb hby own_dA_44) rfl (tlt (by decide)).2.1 k) ?_
  refine own_go (mkF m 48 #[rv t, iv (2 : Int32), jv x, .second, iv (-1 : Int32), jv (0 : Int64), .second, iv (4 : Int32)] [(.ref t)]) (fun t' k => XS.aloadN X13.here hx rfl (hb hby own_dA_47) rfl rfl  k) ?_
  refine X13.getF hx hZ hown (hw _ (List.mem_of_getElem? (i := 18) rfl)) e13 F_sums (hb hby own_dA_48) ?_
  intro T14 X14 e14
  refine own_go (mkF m 53 #[rv t, iv (2 : Int32), jv x, .second, iv (-1 : Int32), jv (0 : Int64), .second, iv (4 : Int32)] [(.int (4 : Int32)), (.ref bs)]) (fun t' k => XS.iload X14.here hx rfl (hb hby own_dA_51) rfl  k) ?_
  refine own_go (mkF m 54 #[rv t, iv (2 : Int32), jv x, .second, iv (-1 : Int32), jv (0 : Int64), .second, iv (4 : Int32)] [(.int (4 : Int32)), (.ref bs), (.int (4 : Int32)), (.ref bs)]) (fun t' k => Jvm.Free.XT.dup2 X14.here hx rfl (hb hby own_dA_53) rfl rfl rfl k) ?_
  refine X14.ldJo hx hZ e14 A_bs 4 (by decide) (by decide) (hb hby own_dA_54) ?_
  rintro _ ⟨y15, rfl⟩
  refine own_go (mkF m 56 #[rv t, iv (2 : Int32), jv x, .second, iv (-1 : Int32), jv (0 : Int64), .second, iv (4 : Int32)] [(.long x), (.long y15), (.int (4 : Int32)), (.ref bs)]) (fun t' k => XS.lloadN X14.here hx rfl (hb hby own_dA_55) rfl  k) ?_
  refine own_go (mkF m 57 #[rv t, iv (2 : Int32), jv x, .second, iv (-1 : Int32), jv (0 : Int64), .second, iv (4 : Int32)] [(.long (y15 + x)), (.int (4 : Int32)), (.ref bs)]) (fun t' k => XS.ladd X14.here hx rfl (hb hby own_dA_56) rfl k) ?_
  refine X14.stJo hx hZ e14 A_bs g_bs 4 (by decide) (by decide) ⟨_, rfl⟩ (hb hby own_dA_57) ?_
  intro T16 h16 X16 e16 W16 A16
  replace A_bs := A16
  replace E_t := E_t.wr W16
  replace A_w := A_w.other W16 ne_w_bs
  replace A_bp := A_bp.other W16 ne_bp_bs
  replace A_bc := A_bc.other W16 (Ne.symm ne_bs_bc)
  replace F_weights := F_weights.other W16 (Or.inl ne_t_bs)
  replace F_present := F_present.other W16 (Or.inl ne_t_bs)
  replace F_sums := F_sums.other W16 (Or.inl ne_t_bs)
  replace F_counts := F_counts.other W16 (Or.inl ne_t_bs)
  replace F_top := F_top.other W16 (Or.inl ne_t_bs)
  replace F_rising := F_rising.other W16 (Or.inl ne_t_bs)
  replace F_total := F_total.other W16 (Or.inl ne_t_bs)
  replace F_taking := F_taking.other W16 (Or.inl ne_t_bs)
  replace F_rc := F_rc.other W16 (Or.inl ne_t_bs)
  replace hn := Nat.le_trans hn (Keep.of_wr W16).1
  clear W16 X14 e14
  refine own_go (mkF m 59 #[rv t, iv (2 : Int32), jv x, .second, iv (-1 : Int32), jv (0 : Int64), .second, iv (4 : Int32)] [(.ref t)]) (fun t' k => XS.aloadN X16.here hx rfl (hb hby own_dA_58) rfl rfl  k) ?_
  refine X16.getF hx hZ hown (hw _ (List.mem_of_getElem? (i := 21) rfl)) e16 F_counts (hb hby own_dA_59) ?_
  intro T17 X17 e17
  refine own_go (mkF m 64 #[rv t, iv (2 : Int32), jv x, .second, iv (-1 : Int32), jv (0 : Int64), .second, iv (4 : Int32)] [(.int (4 : Int32)), (.ref bc)]) (fun t' k => XS.iload X17.here hx rfl (hb hby own_dA_62) rfl  k) ?_
  refine own_go (mkF m 65 #[rv t, iv (2 : Int32), jv x, .second, iv (-1 : Int32), jv (0 : Int64), .second, iv (4 : Int32)] [(.int (4 : Int32)), (.ref bc), (.int (4 : Int32)), (.ref bc)]) (fun t' k => Jvm.Free.XT.dup2 X17.here hx rfl (hb hby own_dA_64) rfl rfl rfl k) ?_
  refine X17.ldI hx hZ e17 A_bc (v := (.int k4)) 4 (by decide) rfl (hb hby own_dA_65) ?_
  refine own_go (mkF m 68 #[rv t, iv (2 : Int32), jv x, .second, iv (-1 : Int32), jv (0 : Int64), .second, iv (4 : Int32)] [(.int (-1 : Int32)), (.int k4), (.int (4 : Int32)), (.ref bc)]) (fun t' k => XS.iload X17.here hx rfl (hb hby own_dA_66) rfl  k) ?_
  refine own_go (mkF m 69 #[rv t, iv (2 : Int32), jv x, .second, iv (-1 : Int32), jv (0 : Int64), .second, iv (4 : Int32)] [(.int (k4 + (-1 : Int32))), (.int (4 : Int32)), (.ref bc)]) (fun t' k => XS.iadd X17.here hx rfl (hb hby own_dA_68) rfl k) ?_
  refine X17.stI hx hZ e17 A_bc g_bc 4 (by decide) (Nat.le_of_ble_eq_true rfl) (hb hby own_dA_69) ?_
  intro T18 h18 X18 e18 W18 A18
  replace A_bc : own_A Z h18 .int bc [(.int k0), (.int k1), (.int k2), (.int (k3 + (-1 : Int32))), (.int (k4 + (-1 : Int32))), (.int k5), (.int k6)] := A18
  clear A18
  replace E_t := E_t.wr W18
  replace A_w := A_w.other W18 ne_w_bc
  replace A_bp := A_bp.other W18 ne_bp_bc
  replace A_bs := A_bs.other W18 ne_bs_bc
  replace F_weights := F_weights.other W18 (Or.inl ne_t_bc)
  replace F_present := F_present.other W18 (Or.inl ne_t_bc)
  replace F_sums := F_sums.other W18 (Or.inl ne_t_bc)
  replace F_counts := F_counts.other W18 (Or.inl ne_t_bc)
  replace F_top := F_top.other W18 (Or.inl ne_t_bc)
  replace F_rising := F_rising.other W18 (Or.inl ne_t_bc)
  replace F_total := F_total.other W18 (Or.inl ne_t_bc)
  replace F_taking := F_taking.other W18 (Or.inl ne_t_bc)
  replace F_rc := F_rc.other W18 (Or.inl ne_t_bc)
  replace hn := Nat.le_trans hn (Keep.of_wr W18).1
  clear W18 X17 e17
  refine own_go (mkF m 72 #[rv t, iv (2 : Int32), jv x, .second, iv (-1 : Int32), jv (0 : Int64), .second, iv (4 : Int32)] [(.long (0 : Int64))]) (fun t' k => XS.lload X18.here hx rfl (hb hby own_dA_70) rfl  k) ?_
  refine own_go (mkF m 73 #[rv t, iv (2 : Int32), jv x, .second, iv (-1 : Int32), jv (0 : Int64), .second, iv (4 : Int32)] [(.long (0 : Int64)), (.long (0 : Int64))]) (fun t' k => XS.lconst X18.here hx rfl (hb hby own_dA_72) k) ?_
  refine own_go (mkF m 74 #[rv t, iv (2 : Int32), jv x, .second, iv (-1 : Int32), jv (0 : Int64), .second, iv (4 : Int32)] [(.int (lcmpW (0 : Int64) (0 : Int64)))]) (fun t' k => XS.lcmp X18.here hx rfl (hb hby own_dA_73) rfl k) ?_
  refine own_go (mkF m 89 #[rv t, iv (2 : Int32), jv x, .second, iv (-1 : Int32), jv (0 : Int64), .second, iv (4 : Int32)] []) (fun t' k => XS.ifYes X18.here hx rfl (pc0 := 74) (pc' := 89) rfl (hb hby own_dA_74) rfl ((if0 _ _).trans (teq ((lw_eq (0 : Int64) (0 : Int64)).mpr (by decide : (0 : Int64) = (0 : Int64)))).1) (by decide) (by decide) k) ?_
  refine own_go (mkF m 91 #[rv t, iv (2 : Int32), jv x, .second, iv (-1 : Int32), jv (0 : Int64), .second, iv (4 : Int32)] [(.int (4 : Int32))]) (fun t' k => XS.iload X18.here hx rfl (hb hby own_dA_89) rfl  k) ?_
  refine own_go (mkF m 93 #[rv t, iv (2 : Int32), jv x, .second, iv (-1 : Int32), jv (0 : Int64), .second, iv (4 : Int32)] [(.int (4 : Int32)), (.int (4 : Int32))]) (fun t' k => XS.iload X18.here hx rfl (hb hby own_dA_91) rfl  k) ?_
  refine own_go (mkF m 95 #[rv t, iv (2 : Int32), jv x, .second, iv (-1 : Int32), jv (0 : Int64), .second, iv (4 : Int32)] [(.int (4 : Int32)), (.int (4 : Int32)), (.int (4 : Int32))]) (fun t' k => XS.iload X18.here hx rfl (hb hby own_dA_93) rfl  k) ?_
  refine own_go (mkF m 96 #[rv t, iv (2 : Int32), jv x, .second, iv (-1 : Int32), jv (0 : Int64), .second, iv (4 : Int32)] [(.int (-4 : Int32)), (.int (4 : Int32)), (.int (4 : Int32))]) (fun t' k => XS.ineg X18.here hx rfl (hb hby own_dA_95) rfl k) ?_
  refine own_go (mkF m 97 #[rv t, iv (2 : Int32), jv x, .second, iv (-1 : Int32), jv (0 : Int64), .second, iv (4 : Int32)] [(.int (4 : Int32)), (.int (4 : Int32))]) (fun t' k => XS.iand X18.here hx rfl (hb hby own_dA_96) rfl k) ?_
  refine own_go (mkF m 98 #[rv t, iv (2 : Int32), jv x, .second, iv (-1 : Int32), jv (0 : Int64), .second, iv (4 : Int32)] [(.int (8 : Int32))]) (fun t' k => XS.iadd X18.here hx rfl (hb hby own_dA_97) rfl k) ?_
  refine own_go (mkF m 100 #[rv t, iv (2 : Int32), jv x, .second, iv (-1 : Int32), jv (0 : Int64), .second, iv (8 : Int32)] []) (fun t' k => XS.istore X18.here hx rfl (hb hby own_dA_98) rfl (l' := #[rv t, iv (2 : Int32), jv x, .second, iv (-1 : Int32), jv (0 : Int64), .second, iv (8 : Int32)]) rfl k) ?_
  refine own_go (mkF m 37 #[rv t, iv (2 : Int32), jv x, .second, iv (-1 : Int32), jv (0 : Int64), .second, iv (8 : Int32)] []) (fun t' k => XS.goto X18.here hx rfl (pc0 := 100) (pc' := 37) rfl (hb hby own_dA_100) (by decide) (by decide) k) ?_
  refine own_go (mkF m 39 #[rv t, iv (2 : Int32), jv x, .second, iv (-1 : Int32), jv (0 : Int64), .second, iv (8 : Int32)] [(.int (8 : Int32))]) (fun t' k => XS.iload X18.here hx rfl (hb hby own_dA_37) rfl  k) ?_
  refine own_go (mkF m 40 #[rv t, iv (2 : Int32), jv x, .second, iv (-1 : Int32), jv (0 : Int64), .second, iv (8 : Int32)] [(.ref t), (.int (8 : Int32))]) (fun t' k => XS.aloadN X18.here hx rfl (hb hby own_dA_39) rfl rfl  k) ?_
  refine X18.getF hx hZ hown (hw _ (List.mem_of_getElem? (i := 18) rfl)) e18 F_sums (hb hby own_dA_40) ?_
  intro T19 X19 e19
  refine X19.aleno hx hZ e19 A_bs (hb hby own_dA_43) ?_
  show own_G p e below s _ _ _ T19 (mkF m 44 #[rv t, iv (2 : Int32), jv x, .second, iv (-1 : Int32), jv (0 : Int64), .second, iv (8 : Int32)] [(.int (7 : Int32)), (.int (8 : Int32))])
  refine own_go (mkF m 103 #[rv t, iv (2 : Int32), jv x, .second, iv (-1 : Int32), jv (0 : Int64), .second, iv (8 : Int32)] []) (fun t' k => XS.icmpYes X19.here hx rfl (pc0 := 44) (pc' := 103) rfl (hb hby own_dA_44) rfl (flt (by decide)).2.1 (by decide) (by decide) k) ?_
  refine X19.retV hx hlk hret (hb hby own_dA_103) ?_ (by decide) (by decide)
  rw [e19]
  exact ⟨rfl, ⟨⟨hn, g_t, g_bp, g_bs, g_bc⟩, ⟨ne_t_w, ne_t_bp, ne_t_bs, ne_t_bc, ne_w_bp, ne_w_bs, ne_w_bc, ne_bp_bs, ne_bp_bc, ne_bs_bc⟩, ⟨E_t, A_w, A_bp, A_bs, A_bc⟩, ⟨F_weights, F_present, F_sums, F_counts, F_top, F_rising⟩, _, _, _, F_total, F_taking, F_rc⟩⟩

theorem own_pn_own_rmA3 : plainFor (⟨"com/example/load_across_peers/loadacrosspeers/internal/pick/WeightTree", "add", "(IJIJ)V"⟩ : MethodName) = true := plainFor_of_name (show plainName "com/example/load_across_peers/loadacrosspeers/internal/pick/WeightTree" = true by first | (simp [plainName, overriddenIn]; done) | decide +kernel)
set_option maxRecDepth 65536 in
set_option maxHeartbeats 40000000 in
theorem own_rmA3 (l : Launch) (Z : State) (a0 : Array Value) (hw : ∀ d ∈ tables_1, d.before a0 Z = true) (ws : List Jvm.Cond) (h0 : Heap) (n0 : Nat) (t w bp bs bc : Addr) (k0 k1 k2 k3 k4 k5 k6 : Int32) (HT : own_T Z h0 n0 t w bp bs bc [(.int k0), (.int k1), (.int k2), (.int k3), (.int k4), (.int k5), (.int k6)]) (x : Int64)  :
    own_C l Z (⟨"com/example/load_across_peers/loadacrosspeers/internal/pick/WeightTree", "add", "(IJIJ)V"⟩ : MethodName) prog_32_method_13_code 8 none ws ({ frames := 0, cells := 0, slots := 0, locals := 0 } : Room) #[(.ref t), (.int (3 : Int32)), (.long x), (.int (-1 : Int32)), (.long (0 : Int64))] h0 (own_Q n0 (fun v h => v = none ∧ own_T Z h n0 t w bp bs bc [(.int k0), (.int k1), (.int k2), (.int k3), (.int (k4 + (-1 : Int32))), (.int k5), (.int k6)])) := by
  refine own_met own_pn_own_rmA3 #[rv t, iv (3 : Int32), jv x, .second, iv (-1 : Int32), jv (0 : Int64), .second, .unset] (fun m => by first | (simp [entryFrame, mkF, argsToLocals, Value.category]; done) | rfl) ?_
  intro p e s m below meth c s₁ hx hby hml hown hret hlk hZ hnm X0 e0
  replace X0 := own_S.of X0 (n0)
  obtain ⟨⟨hn, g_t, g_bp, g_bs, g_bc⟩, ⟨ne_t_w, ne_t_bp, ne_t_bs, ne_t_bc, ne_w_bp, ne_w_bs, ne_w_bc, ne_bp_bs, ne_bp_bc, ne_bs_bc⟩, ⟨E_t, A_w, A_bp, A_bs, A_bc⟩, ⟨F_weights, F_present, F_sums, F_counts, F_top, F_rising⟩, u1, u2, u3, F_total, F_taking, F_rc⟩ := HT
  refine own_go (mkF m 1 #[rv t, iv (3 : Int32), jv x, .second, iv (-1 : Int32), jv (0 : Int64), .second, .unset] [(.ref t)]) (fun t' k => XS.aloadN X0.here hx rfl (hb hby own_dA_0) rfl rfl  k) ?_
  refine own_go (mkF m 2 #[rv t, iv (3 : Int32), jv x, .second, iv (-1 : Int32), jv (0 : Int64), .second, .unset] [(.ref t), (.ref t)]) (fun t' k => XS.dup X0.here hx rfl (hb hby own_dA_1) rfl rfl k) ?_
  refine X0.getF hx hZ hown (hw _ (List.mem_of_getElem? (i := 34) rfl)) e0 F_total (hb hby own_dA_2) ?_
  intro T1 X1 e1
  refine own_go (mkF m 6 #[rv t, iv (3 : Int32), jv x, .second, iv (-1 : Int32), jv (0 : Int64), .second, .unset] [(.long x), (.long u1), (.ref t)]) (fun t' k => XS.lloadN X1.here hx rfl (hb hby own_dA_5) rfl  k) ?_
  refine own_go (mkF m 7 #[rv t, iv (3 : Int32), jv x, .second, iv (-1 : Int32), jv (0 : Int64), .second, .unset] [(.long (u1 + x)), (.ref t)]) (fun t' k => XS.ladd X1.here hx rfl (hb hby own_dA_6) rfl k) ?_
  refine X1.putF hx hZ hown (hw _ (List.mem_of_getElem? (i := 34) rfl)) e1 F_total E_t g_t (Or.inl (hw _ (List.mem_of_getElem? (i := 35) rfl))) (hw _ (List.mem_of_getElem? (i := 2) rfl)) (ty := .long) (by decide) rfl rfl (hb hby own_dA_7) ?_
  intro T2 h2 X2 e2 W2
  replace E_t := E_t.wr W2
  replace A_w := A_w.other W2 (Ne.symm ne_t_w)
  replace A_bp := A_bp.other W2 (Ne.symm ne_t_bp)
  replace A_bs := A_bs.other W2 (Ne.symm ne_t_bs)
  replace A_bc := A_bc.other W2 (Ne.symm ne_t_bc)
  replace F_weights := F_weights.other W2 (Or.inr (own_sn_WeightTree_weights_total hw))
  replace F_present := F_present.other W2 (Or.inr (own_sn_WeightTree_present_total hw))
  replace F_sums := F_sums.other W2 (Or.inr (own_sn_WeightTree_sums_total hw))
  replace F_counts := F_counts.other W2 (Or.inr (own_sn_WeightTree_counts_total hw))
  replace F_top := F_top.other W2 (Or.inr (own_sn_WeightTree_top_total hw))
  replace F_rising := F_rising.other W2 (Or.inr (own_sn_WeightTree_rising_total hw))
  replace F_total := F_total.same W2
  replace F_taking := F_taking.other W2 (Or.inr (own_sn_WeightTree_taking_total hw))
  replace F_rc := F_rc.other W2 (Or.inr (own_sn_WeightTree_risingCount_total hw))
  replace hn := Nat.le_trans hn (Keep.of_wr W2).1
  clear W2 X1 e1
  generalize (u1 + x) = ug2 at F_total
  refine own_go (mkF m 11 #[rv t, iv (3 : Int32), jv x, .second, iv (-1 : Int32), jv (0 : Int64), .second, .unset] [(.ref t)]) (fun t' k => XS.aloadN X2.here hx rfl (hb hby own_dA_10) rfl rfl  k) ?_
  refine own_go (mkF m 12 #[rv t, iv (3 : Int32), jv x, .second, iv (-1 : Int32), jv (0 : Int64), .second, .unset] [(.ref t), (.ref t)]) (fun t' k => XS.dup X2.here hx rfl (hb hby own_dA_11) rfl rfl k) ?_
  refine X2.getF hx hZ hown (hw _ (List.mem_of_getElem? (i := 36) rfl)) e2 F_taking (hb hby own_dA_12) ?_
  intro T3 X3 e3
  refine own_go (mkF m 17 #[rv t, iv (3 : Int32), jv x, .second, iv (-1 : Int32), jv (0 : Int64), .second, .unset] [(.int (-1 : Int32)), (.int u2), (.ref t)]) (fun t' k => XS.iload X3.here hx rfl (hb hby own_dA_15) rfl  k) ?_
  refine own_go (mkF m 18 #[rv t, iv (3 : Int32), jv x, .second, iv (-1 : Int32), jv (0 : Int64), .second, .unset] [(.int (u2 + (-1 : Int32))), (.ref t)]) (fun t' k => XS.iadd X3.here hx rfl (hb hby own_dA_17) rfl k) ?_
  refine X3.putF hx hZ hown (hw _ (List.mem_of_getElem? (i := 36) rfl)) e3 F_taking E_t g_t (Or.inl (hw _ (List.mem_of_getElem? (i := 37) rfl))) (hw _ (List.mem_of_getElem? (i := 2) rfl)) (ty := .int) (by decide) rfl rfl (hb hby own_dA_18) ?_
  intro T4 h4 X4 e4 W4
  replace E_t := E_t.wr W4
  replace A_w := A_w.other W4 (Ne.symm ne_t_w)
  replace A_bp := A_bp.other W4 (Ne.symm ne_t_bp)
  replace A_bs := A_bs.other W4 (Ne.symm ne_t_bs)
  replace A_bc := A_bc.other W4 (Ne.symm ne_t_bc)
  replace F_weights := F_weights.other W4 (Or.inr (own_sn_WeightTree_weights_taking hw))
  replace F_present := F_present.other W4 (Or.inr (own_sn_WeightTree_present_taking hw))
  replace F_sums := F_sums.other W4 (Or.inr (own_sn_WeightTree_sums_taking hw))
  replace F_counts := F_counts.other W4 (Or.inr (own_sn_WeightTree_counts_taking hw))
  replace F_top := F_top.other W4 (Or.inr (own_sn_WeightTree_top_taking hw))
  replace F_rising := F_rising.other W4 (Or.inr (own_sn_WeightTree_rising_taking hw))
  replace F_total := F_total.other W4 (Or.inr (own_sn_WeightTree_total_taking hw))
  replace F_taking := F_taking.same W4
  replace F_rc := F_rc.other W4 (Or.inr (own_sn_WeightTree_risingCount_taking hw))
  replace hn := Nat.le_trans hn (Keep.of_wr W4).1
  clear W4 X3 e3
  generalize (u2 + (-1 : Int32)) = ug4 at F_taking
  refine own_go (mkF m 22 #[rv t, iv (3 : Int32), jv x, .second, iv (-1 : Int32), jv (0 : Int64), .second, .unset] [(.ref t)]) (fun t' k => XS.aloadN X4.here hx rfl (hb hby own_dA_21) rfl rfl  k) ?_
  refine own_go (mkF m 23 #[rv t, iv (3 : Int32), jv x, .second, iv (-1 : Int32), jv (0 : Int64), .second, .unset] [(.ref t), (.ref t)]) (fun t' k => XS.dup X4.here hx rfl (hb hby own_dA_22) rfl rfl k) ?_
  refine X4.getF hx hZ hown (hw _ (List.mem_of_getElem? (i := 59) rfl)) e4 F_rc (hb hby own_dA_23) ?_
  intro T5 X5 e5
  refine own_go (mkF m 28 #[rv t, iv (3 : Int32), jv x, .second, iv (-1 : Int32), jv (0 : Int64), .second, .unset] [(.long (0 : Int64)), (.long u3), (.ref t)]) (fun t' k => XS.lload X5.here hx rfl (hb hby own_dA_26) rfl  k) ?_
  refine own_go (mkF m 29 #[rv t, iv (3 : Int32), jv x, .second, iv (-1 : Int32), jv (0 : Int64), .second, .unset] [(.long (u3 + (0 : Int64))), (.ref t)]) (fun t' k => XS.ladd X5.here hx rfl (hb hby own_dA_28) rfl k) ?_
  refine X5.putF hx hZ hown (hw _ (List.mem_of_getElem? (i := 59) rfl)) e5 F_rc E_t g_t (Or.inl (hw _ (List.mem_of_getElem? (i := 60) rfl))) (hw _ (List.mem_of_getElem? (i := 2) rfl)) (ty := .long) (by decide) rfl rfl (hb hby own_dA_29) ?_
  intro T6 h6 X6 e6 W6
  replace E_t := E_t.wr W6
  replace A_w := A_w.other W6 (Ne.symm ne_t_w)
  replace A_bp := A_bp.other W6 (Ne.symm ne_t_bp)
  replace A_bs := A_bs.other W6 (Ne.symm ne_t_bs)
  replace A_bc := A_bc.other W6 (Ne.symm ne_t_bc)
  replace F_weights := F_weights.other W6 (Or.inr (own_sn_WeightTree_weights_risingCount hw))
  replace F_present := F_present.other W6 (Or.inr (own_sn_WeightTree_present_risingCount hw))
  replace F_sums := F_sums.other W6 (Or.inr (own_sn_WeightTree_sums_risingCount hw))
  replace F_counts := F_counts.other W6 (Or.inr (own_sn_WeightTree_counts_risingCount hw))
  replace F_top := F_top.other W6 (Or.inr (own_sn_WeightTree_top_risingCount hw))
  replace F_rising := F_rising.other W6 (Or.inr (own_sn_WeightTree_rising_risingCount hw))
  replace F_total := F_total.other W6 (Or.inr (own_sn_WeightTree_total_risingCount hw))
  replace F_taking := F_taking.other W6 (Or.inr (own_sn_WeightTree_taking_risingCount hw))
  replace F_rc := F_rc.same W6
  replace hn := Nat.le_trans hn (Keep.of_wr W6).1
  clear W6 X5 e5
  generalize (u3 + (0 : Int64)) = ug6 at F_rc
  refine own_go (mkF m 33 #[rv t, iv (3 : Int32), jv x, .second, iv (-1 : Int32), jv (0 : Int64), .second, .unset] [(.int (3 : Int32))]) (fun t' k => XS.iloadN X6.here hx rfl (hb hby own_dA_32) rfl  k) ?_
  refine own_go (mkF m 34 #[rv t, iv (3 : Int32), jv x, .second, iv (-1 : Int32), jv (0 : Int64), .second, .unset] [(.int (1 : Int32)), (.int (3 : Int32))]) (fun t' k => XS.iconst X6.here hx rfl (hb hby own_dA_33) k) ?_
  refine own_go (mkF m 35 #[rv t, iv (3 : Int32), jv x, .second, iv (-1 : Int32), jv (0 : Int64), .second, .unset] [(.int (4 : Int32))]) (fun t' k => XS.iadd X6.here hx rfl (hb hby own_dA_34) rfl k) ?_
  refine own_go (mkF m 37 #[rv t, iv (3 : Int32), jv x, .second, iv (-1 : Int32), jv (0 : Int64), .second, iv (4 : Int32)] []) (fun t' k => XS.istore X6.here hx rfl (hb hby own_dA_35) rfl (l' := #[rv t, iv (3 : Int32), jv x, .second, iv (-1 : Int32), jv (0 : Int64), .second, iv (4 : Int32)]) rfl k) ?_
  refine own_go (mkF m 39 #[rv t, iv (3 : Int32), jv x, .second, iv (-1 : Int32), jv (0 : Int64), .second, iv (4 : Int32)] [(.int (4 : Int32))]) (fun t' k => XS.iload X6.here hx rfl (hb hby own_dA_37) rfl  k) ?_
  refine own_go (mkF m 40 #[rv t, iv (3 : Int32), jv x, .second, iv (-1 : Int32), jv (0 : Int64), .second, iv (4 : Int32)] [(.ref t), (.int (4 : Int32))]) (fun t' k => XS.aloadN X6.here hx rfl (hb hby own_dA_39) rfl rfl  k) ?_
  refine X6.getF hx hZ hown (hw _ (List.mem_of_getElem? (i := 18) rfl)) e6 F_sums (hb hby own_dA_40) ?_
  intro T7 X7 e7
  refine X7.aleno hx hZ e7 A_bs (hb hby own_dA_43) ?_
  show own_G p e below s _ _ _ T7 (mkF m 44 #[rv t, iv (3 : Int32), jv x, .second, iv (-1 : Int32), jv (0 : Int64), .second, iv (4 : Int32)] [(.int (7 : Int32)), (.int (4 : Int32))])
  refine own_go (mkF m 47 #[rv t, iv (3 : Int32), jv x, .second, iv (-1 : Int32), jv (0 : Int64), .second, iv (4 : Int32)] []) (fun t' k => XS.icmpNo X7.here hx rfl (hb hby own_dA_44) rfl (tlt (by decide)).2.1 k) ?_
  refine own_go (mkF m 48 #[rv t, iv (3 : Int32), jv x, .second, iv (-1 : Int32), jv (0 : Int64), .second, iv (4 : Int32)] [(.ref t)]) (fun t' k => XS.aloadN X7.here hx rfl (hb hby own_dA_47) rfl rfl  k) ?_
  refine X7.getF hx hZ hown (hw _ (List.mem_of_getElem? (i := 18) rfl)) e7 F_sums (hb hby own_dA_48) ?_
  intro T8 X8 e8
  refine own_go (mkF m 53 #[rv t, iv (3 : Int32), jv x, .second, iv (-1 : Int32), jv (0 : Int64), .second, iv (4 : Int32)] [(.int (4 : Int32)), (.ref bs)]) (fun t' k => XS.iload X8.here hx rfl (hb hby own_dA_51) rfl  k) ?_
  refine own_go (mkF m 54 #[rv t, iv (3 : Int32), jv x, .second, iv (-1 : Int32), jv (0 : Int64), .second, iv (4 : Int32)] [(.int (4 : Int32)), (.ref bs), (.int (4 : Int32)), (.ref bs)]) (fun t' k => Jvm.Free.XT.dup2 X8.here hx rfl (hb hby own_dA_53) rfl rfl rfl k) ?_
  refine X8.ldJo hx hZ e8 A_bs 4 (by decide) (by decide) (hb hby own_dA_54) ?_
  rintro _ ⟨y9, rfl⟩
  refine own_go (mkF m 56 #[rv t, iv (3 : Int32), jv x, .second, iv (-1 : Int32), jv (0 : Int64), .second, iv (4 : Int32)] [(.long x), (.long y9), (.int (4 : Int32)), (.ref bs)]) (fun t' k => XS.lloadN X8.here hx rfl (hb hby own_dA_55) rfl  k) ?_
  refine own_go (mkF m 57 #[rv t, iv (3 : Int32), jv x, .second, iv (-1 : Int32), jv (0 : Int64), .second, iv (4 : Int32)] [(.long (y9 + x)), (.int (4 : Int32)), (.ref bs)]) (fun t' k => XS.ladd X8.here hx rfl (hb hby own_dA_56) rfl k) ?_
  refine X8.stJo hx hZ e8 A_bs g_bs 4 (by decide) (by decide) ⟨_, rfl⟩ (hb hby own_dA_57) ?_
  intro T10 h10 X10 e10 W10 A10
  replace A_bs := A10
  replace E_t := E_t.wr W10
  replace A_w := A_w.other W10 ne_w_bs
  replace A_bp := A_bp.other W10 ne_bp_bs
  replace A_bc := A_bc.other W10 (Ne.symm ne_bs_bc)
  replace F_weights := F_weights.other W10 (Or.inl ne_t_bs)
  replace F_present := F_present.other W10 (Or.inl ne_t_bs)
  replace F_sums := F_sums.other W10 (Or.inl ne_t_bs)
  replace F_counts := F_counts.other W10 (Or.inl ne_t_bs)
  replace F_top := F_top.other W10 (Or.inl ne_t_bs)
  replace F_rising := F_rising.other W10 (Or.inl ne_t_bs)
  replace F_total := F_total.other W10 (Or.inl ne_t_bs)
  replace F_taking := F_taking.other W10 (Or.inl ne_t_bs)
  replace F_rc := F_rc.other W10 (Or.inl ne_t_bs)
  replace hn := Nat.le_trans hn (Keep.of_wr W10).1
  clear W10 X8 e8
  refine own_go (mkF m 59 #[rv t, iv (3 : Int32), jv x, .second, iv (-1 : Int32), jv (0 : Int64), .second, iv (4 : Int32)] [(.ref t)]) (fun t' k => XS.aloadN X10.here hx rfl (hb hby own_dA_58) rfl rfl  k) ?_
  refine X10.getF hx hZ hown (hw _ (List.mem_of_getElem? (i := 21) rfl)) e10 F_counts (hb hby own_dA_59) ?_
  intro T11 X11 e11
  refine own_go (mkF m 64 #[rv t, iv (3 : Int32), jv x, .second, iv (-1 : Int32), jv (0 : Int64), .second, iv (4 : Int32)] [(.int (4 : Int32)), (.ref bc)]) (fun t' k => XS.iload X11.here hx rfl (hb hby own_dA_62) rfl  k) ?_
  refine own_go (mkF m 65 #[rv t, iv (3 : Int32), jv x, .second, iv (-1 : Int32), jv (0 : Int64), .second, iv (4 : Int32)] [(.int (4 : Int32)), (.ref bc), (.int (4 : Int32)), (.ref bc)]) (fun t' k => Jvm.Free.XT.dup2 X11.here hx rfl (hb hby own_dA_64) rfl rfl rfl k) ?_
  refine X11.ldI hx hZ e11 A_bc (v := (.int k4)) 4 (by decide) rfl (hb hby own_dA_65) ?_
  refine own_go (mkF m 68 #[rv t, iv (3 : Int32), jv x, .second, iv (-1 : Int32), jv (0 : Int64), .second, iv (4 : Int32)] [(.int (-1 : Int32)), (.int k4), (.int (4 : Int32)), (.ref bc)]) (fun t' k => XS.iload X11.here hx rfl (hb hby own_dA_66) rfl  k) ?_
  refine own_go (mkF m 69 #[rv t, iv (3 : Int32), jv x, .second, iv (-1 : Int32), jv (0 : Int64), .second, iv (4 : Int32)] [(.int (k4 + (-1 : Int32))), (.int (4 : Int32)), (.ref bc)]) (fun t' k => XS.iadd X11.here hx rfl (hb hby own_dA_68) rfl k) ?_
  refine X11.stI hx hZ e11 A_bc g_bc 4 (by decide) (Nat.le_of_ble_eq_true rfl) (hb hby own_dA_69) ?_
  intro T12 h12 X12 e12 W12 A12
  replace A_bc : own_A Z h12 .int bc [(.int k0), (.int k1), (.int k2), (.int k3), (.int (k4 + (-1 : Int32))), (.int k5), (.int k6)] := A12
  clear A12
  replace E_t := E_t.wr W12
  replace A_w := A_w.other W12 ne_w_bc
  replace A_bp := A_bp.other W12 ne_bp_bc
  replace A_bs := A_bs.other W12 ne_bs_bc
  replace F_weights := F_weights.other W12 (Or.inl ne_t_bc)
  replace F_present := F_present.other W12 (Or.inl ne_t_bc)
  replace F_sums := F_sums.other W12 (Or.inl ne_t_bc)
  replace F_counts := F_counts.other W12 (Or.inl ne_t_bc)
  replace F_top := F_top.other W12 (Or.inl ne_t_bc)
  replace F_rising := F_rising.other W12 (Or.inl ne_t_bc)
  replace F_total := F_total.other W12 (Or.inl ne_t_bc)
  replace F_taking := F_taking.other W12 (Or.inl ne_t_bc)
  replace F_rc := F_rc.other W12 (Or.inl ne_t_bc)
  replace hn := Nat.le_trans hn (Keep.of_wr W12).1
  clear W12 X11 e11
  refine own_go (mkF m 72 #[rv t, iv (3 : Int32), jv x, .second, iv (-1 : Int32), jv (0 : Int64), .second, iv (4 : Int32)] [(.long (0 : Int64))]) (fun t' k => XS.lload X12.here hx rfl (hb hby own_dA_70) rfl  k) ?_
  refine own_go (mkF m 73 #[rv t, iv (3 : Int32), jv x, .second, iv (-1 : Int32), jv (0 : Int64), .second, iv (4 : Int32)] [(.long (0 : Int64)), (.long (0 : Int64))]) (fun t' k => XS.lconst X12.here hx rfl (hb hby own_dA_72) k) ?_
  refine own_go (mkF m 74 #[rv t, iv (3 : Int32), jv x, .second, iv (-1 : Int32), jv (0 : Int64), .second, iv (4 : Int32)] [(.int (lcmpW (0 : Int64) (0 : Int64)))]) (fun t' k => XS.lcmp X12.here hx rfl (hb hby own_dA_73) rfl k) ?_
  refine own_go (mkF m 89 #[rv t, iv (3 : Int32), jv x, .second, iv (-1 : Int32), jv (0 : Int64), .second, iv (4 : Int32)] []) (fun t' k => XS.ifYes X12.here hx rfl (pc0 := 74) (pc' := 89) rfl (hb hby own_dA_74) rfl ((if0 _ _).trans (teq ((lw_eq (0 : Int64) (0 : Int64)).mpr (by decide : (0 : Int64) = (0 : Int64)))).1) (by decide) (by decide) k) ?_
  refine own_go (mkF m 91 #[rv t, iv (3 : Int32), jv x, .second, iv (-1 : Int32), jv (0 : Int64), .second, iv (4 : Int32)] [(.int (4 : Int32))]) (fun t' k => XS.iload X12.here hx rfl (hb hby own_dA_89) rfl  k) ?_
  refine own_go (mkF m 93 #[rv t, iv (3 : Int32), jv x, .second, iv (-1 : Int32), jv (0 : Int64), .second, iv (4 : Int32)] [(.int (4 : Int32)), (.int (4 : Int32))]) (fun t' k => XS.iload X12.here hx rfl (hb hby own_dA_91) rfl  k) ?_
  refine own_go (mkF m 95 #[rv t, iv (3 : Int32), jv x, .second, iv (-1 : Int32), jv (0 : Int64), .second, iv (4 : Int32)] [(.int (4 : Int32)), (.int (4 : Int32)), (.int (4 : Int32))]) (fun t' k => XS.iload X12.here hx rfl (hb hby own_dA_93) rfl  k) ?_
  refine own_go (mkF m 96 #[rv t, iv (3 : Int32), jv x, .second, iv (-1 : Int32), jv (0 : Int64), .second, iv (4 : Int32)] [(.int (-4 : Int32)), (.int (4 : Int32)), (.int (4 : Int32))]) (fun t' k => XS.ineg X12.here hx rfl (hb hby own_dA_95) rfl k) ?_
  refine own_go (mkF m 97 #[rv t, iv (3 : Int32), jv x, .second, iv (-1 : Int32), jv (0 : Int64), .second, iv (4 : Int32)] [(.int (4 : Int32)), (.int (4 : Int32))]) (fun t' k => XS.iand X12.here hx rfl (hb hby own_dA_96) rfl k) ?_
  refine own_go (mkF m 98 #[rv t, iv (3 : Int32), jv x, .second, iv (-1 : Int32), jv (0 : Int64), .second, iv (4 : Int32)] [(.int (8 : Int32))]) (fun t' k => XS.iadd X12.here hx rfl (hb hby own_dA_97) rfl k) ?_
  refine own_go (mkF m 100 #[rv t, iv (3 : Int32), jv x, .second, iv (-1 : Int32), jv (0 : Int64), .second, iv (8 : Int32)] []) (fun t' k => XS.istore X12.here hx rfl (hb hby own_dA_98) rfl (l' := #[rv t, iv (3 : Int32), jv x, .second, iv (-1 : Int32), jv (0 : Int64), .second, iv (8 : Int32)]) rfl k) ?_
  refine own_go (mkF m 37 #[rv t, iv (3 : Int32), jv x, .second, iv (-1 : Int32), jv (0 : Int64), .second, iv (8 : Int32)] []) (fun t' k => XS.goto X12.here hx rfl (pc0 := 100) (pc' := 37) rfl (hb hby own_dA_100) (by decide) (by decide) k) ?_
  refine own_go (mkF m 39 #[rv t, iv (3 : Int32), jv x, .second, iv (-1 : Int32), jv (0 : Int64), .second, iv (8 : Int32)] [(.int (8 : Int32))]) (fun t' k => XS.iload X12.here hx rfl (hb hby own_dA_37) rfl  k) ?_
  refine own_go (mkF m 40 #[rv t, iv (3 : Int32), jv x, .second, iv (-1 : Int32), jv (0 : Int64), .second, iv (8 : Int32)] [(.ref t), (.int (8 : Int32))]) (fun t' k => XS.aloadN X12.here hx rfl (hb hby own_dA_39) rfl rfl  k) ?_
  refine X12.getF hx hZ hown (hw _ (List.mem_of_getElem? (i := 18) rfl)) e12 F_sums (hb hby own_dA_40) ?_
  intro T13 X13 e13
  refine X13.aleno hx hZ e13 A_bs (hb hby own_dA_43) ?_
  show own_G p e below s _ _ _ T13 (mkF m 44 #[rv t, iv (3 : Int32), jv x, .second, iv (-1 : Int32), jv (0 : Int64), .second, iv (8 : Int32)] [(.int (7 : Int32)), (.int (8 : Int32))])
  refine own_go (mkF m 103 #[rv t, iv (3 : Int32), jv x, .second, iv (-1 : Int32), jv (0 : Int64), .second, iv (8 : Int32)] []) (fun t' k => XS.icmpYes X13.here hx rfl (pc0 := 44) (pc' := 103) rfl (hb hby own_dA_44) rfl (flt (by decide)).2.1 (by decide) (by decide) k) ?_
  refine X13.retV hx hlk hret (hb hby own_dA_103) ?_ (by decide) (by decide)
  rw [e13]
  exact ⟨rfl, ⟨⟨hn, g_t, g_bp, g_bs, g_bc⟩, ⟨ne_t_w, ne_t_bp, ne_t_bs, ne_t_bc, ne_w_bp, ne_w_bs, ne_w_bc, ne_bp_bs, ne_bp_bc, ne_bs_bc⟩, ⟨E_t, A_w, A_bp, A_bs, A_bc⟩, ⟨F_weights, F_present, F_sums, F_counts, F_top, F_rising⟩, _, _, _, F_total, F_taking, F_rc⟩⟩

theorem own_pn_own_rmA4 : plainFor (⟨"com/example/load_across_peers/loadacrosspeers/internal/pick/WeightTree", "add", "(IJIJ)V"⟩ : MethodName) = true := plainFor_of_name (show plainName "com/example/load_across_peers/loadacrosspeers/internal/pick/WeightTree" = true by first | (simp [plainName, overriddenIn]; done) | decide +kernel)
set_option maxRecDepth 65536 in
set_option maxHeartbeats 40000000 in
theorem own_rmA4 (l : Launch) (Z : State) (a0 : Array Value) (hw : ∀ d ∈ tables_1, d.before a0 Z = true) (ws : List Jvm.Cond) (h0 : Heap) (n0 : Nat) (t w bp bs bc : Addr) (k0 k1 k2 k3 k4 k5 k6 : Int32) (HT : own_T Z h0 n0 t w bp bs bc [(.int k0), (.int k1), (.int k2), (.int k3), (.int k4), (.int k5), (.int k6)]) (x : Int64)  :
    own_C l Z (⟨"com/example/load_across_peers/loadacrosspeers/internal/pick/WeightTree", "add", "(IJIJ)V"⟩ : MethodName) prog_32_method_13_code 8 none ws ({ frames := 0, cells := 0, slots := 0, locals := 0 } : Room) #[(.ref t), (.int (4 : Int32)), (.long x), (.int (-1 : Int32)), (.long (0 : Int64))] h0 (own_Q n0 (fun v h => v = none ∧ own_T Z h n0 t w bp bs bc [(.int k0), (.int k1), (.int k2), (.int k3), (.int k4), (.int (k5 + (-1 : Int32))), (.int (k6 + (-1 : Int32)))])) := by
  refine own_met own_pn_own_rmA4 #[rv t, iv (4 : Int32), jv x, .second, iv (-1 : Int32), jv (0 : Int64), .second, .unset] (fun m => by first | (simp [entryFrame, mkF, argsToLocals, Value.category]; done) | rfl) ?_
  intro p e s m below meth c s₁ hx hby hml hown hret hlk hZ hnm X0 e0
  replace X0 := own_S.of X0 (n0)
  obtain ⟨⟨hn, g_t, g_bp, g_bs, g_bc⟩, ⟨ne_t_w, ne_t_bp, ne_t_bs, ne_t_bc, ne_w_bp, ne_w_bs, ne_w_bc, ne_bp_bs, ne_bp_bc, ne_bs_bc⟩, ⟨E_t, A_w, A_bp, A_bs, A_bc⟩, ⟨F_weights, F_present, F_sums, F_counts, F_top, F_rising⟩, u1, u2, u3, F_total, F_taking, F_rc⟩ := HT
  refine own_go (mkF m 1 #[rv t, iv (4 : Int32), jv x, .second, iv (-1 : Int32), jv (0 : Int64), .second, .unset] [(.ref t)]) (fun t' k => XS.aloadN X0.here hx rfl (hb hby own_dA_0) rfl rfl  k) ?_
  refine own_go (mkF m 2 #[rv t, iv (4 : Int32), jv x, .second, iv (-1 : Int32), jv (0 : Int64), .second, .unset] [(.ref t), (.ref t)]) (fun t' k => XS.dup X0.here hx rfl (hb hby own_dA_1) rfl rfl k) ?_
  refine X0.getF hx hZ hown (hw _ (List.mem_of_getElem? (i := 34) rfl)) e0 F_total (hb hby own_dA_2) ?_
  intro T1 X1 e1
  refine own_go (mkF m 6 #[rv t, iv (4 : Int32), jv x, .second, iv (-1 : Int32), jv (0 : Int64), .second, .unset] [(.long x), (.long u1), (.ref t)]) (fun t' k => XS.lloadN X1.here hx rfl (hb hby own_dA_5) rfl  k) ?_
  refine own_go (mkF m 7 #[rv t, iv (4 : Int32), jv x, .second, iv (-1 : Int32), jv (0 : Int64), .second, .unset] [(.long (u1 + x)), (.ref t)]) (fun t' k => XS.ladd X1.here hx rfl (hb hby own_dA_6) rfl k) ?_
  refine X1.putF hx hZ hown (hw _ (List.mem_of_getElem? (i := 34) rfl)) e1 F_total E_t g_t (Or.inl (hw _ (List.mem_of_getElem? (i := 35) rfl))) (hw _ (List.mem_of_getElem? (i := 2) rfl)) (ty := .long) (by decide) rfl rfl (hb hby own_dA_7) ?_
  intro T2 h2 X2 e2 W2
  replace E_t := E_t.wr W2
  replace A_w := A_w.other W2 (Ne.symm ne_t_w)
  replace A_bp := A_bp.other W2 (Ne.symm ne_t_bp)
  replace A_bs := A_bs.other W2 (Ne.symm ne_t_bs)
  replace A_bc := A_bc.other W2 (Ne.symm ne_t_bc)
  replace F_weights := F_weights.other W2 (Or.inr (own_sn_WeightTree_weights_total hw))
  replace F_present := F_present.other W2 (Or.inr (own_sn_WeightTree_present_total hw))
  replace F_sums := F_sums.other W2 (Or.inr (own_sn_WeightTree_sums_total hw))
  replace F_counts := F_counts.other W2 (Or.inr (own_sn_WeightTree_counts_total hw))
  replace F_top := F_top.other W2 (Or.inr (own_sn_WeightTree_top_total hw))
  replace F_rising := F_rising.other W2 (Or.inr (own_sn_WeightTree_rising_total hw))
  replace F_total := F_total.same W2
  replace F_taking := F_taking.other W2 (Or.inr (own_sn_WeightTree_taking_total hw))
  replace F_rc := F_rc.other W2 (Or.inr (own_sn_WeightTree_risingCount_total hw))
  replace hn := Nat.le_trans hn (Keep.of_wr W2).1
  clear W2 X1 e1
  generalize (u1 + x) = ug2 at F_total
  refine own_go (mkF m 11 #[rv t, iv (4 : Int32), jv x, .second, iv (-1 : Int32), jv (0 : Int64), .second, .unset] [(.ref t)]) (fun t' k => XS.aloadN X2.here hx rfl (hb hby own_dA_10) rfl rfl  k) ?_
  refine own_go (mkF m 12 #[rv t, iv (4 : Int32), jv x, .second, iv (-1 : Int32), jv (0 : Int64), .second, .unset] [(.ref t), (.ref t)]) (fun t' k => XS.dup X2.here hx rfl (hb hby own_dA_11) rfl rfl k) ?_
  refine X2.getF hx hZ hown (hw _ (List.mem_of_getElem? (i := 36) rfl)) e2 F_taking (hb hby own_dA_12) ?_
  intro T3 X3 e3
  refine own_go (mkF m 17 #[rv t, iv (4 : Int32), jv x, .second, iv (-1 : Int32), jv (0 : Int64), .second, .unset] [(.int (-1 : Int32)), (.int u2), (.ref t)]) (fun t' k => XS.iload X3.here hx rfl (hb hby own_dA_15) rfl  k) ?_
  refine own_go (mkF m 18 #[rv t, iv (4 : Int32), jv x, .second, iv (-1 : Int32), jv (0 : Int64), .second, .unset] [(.int (u2 + (-1 : Int32))), (.ref t)]) (fun t' k => XS.iadd X3.here hx rfl (hb hby own_dA_17) rfl k) ?_
  refine X3.putF hx hZ hown (hw _ (List.mem_of_getElem? (i := 36) rfl)) e3 F_taking E_t g_t (Or.inl (hw _ (List.mem_of_getElem? (i := 37) rfl))) (hw _ (List.mem_of_getElem? (i := 2) rfl)) (ty := .int) (by decide) rfl rfl (hb hby own_dA_18) ?_
  intro T4 h4 X4 e4 W4
  replace E_t := E_t.wr W4
  replace A_w := A_w.other W4 (Ne.symm ne_t_w)
  replace A_bp := A_bp.other W4 (Ne.symm ne_t_bp)
  replace A_bs := A_bs.other W4 (Ne.symm ne_t_bs)
  replace A_bc := A_bc.other W4 (Ne.symm ne_t_bc)
  replace F_weights := F_weights.other W4 (Or.inr (own_sn_WeightTree_weights_taking hw))
  replace F_present := F_present.other W4 (Or.inr (own_sn_WeightTree_present_taking hw))
  replace F_sums := F_sums.other W4 (Or.inr (own_sn_WeightTree_sums_taking hw))
  replace F_counts := F_counts.other W4 (Or.inr (own_sn_WeightTree_counts_taking hw))
  replace F_top := F_top.other W4 (Or.inr (own_sn_WeightTree_top_taking hw))
  replace F_rising := F_rising.other W4 (Or.inr (own_sn_WeightTree_rising_taking hw))
  replace F_total := F_total.other W4 (Or.inr (own_sn_WeightTree_total_taking hw))
  replace F_taking := F_taking.same W4
  replace F_rc := F_rc.other W4 (Or.inr (own_sn_WeightTree_risingCount_taking hw))
  replace hn := Nat.le_trans hn (Keep.of_wr W4).1
  clear W4 X3 e3
  generalize (u2 + (-1 : Int32)) = ug4 at F_taking
  refine own_go (mkF m 22 #[rv t, iv (4 : Int32), jv x, .second, iv (-1 : Int32), jv (0 : Int64), .second, .unset] [(.ref t)]) (fun t' k => XS.aloadN X4.here hx rfl (hb hby own_dA_21) rfl rfl  k) ?_
  refine own_go (mkF m 23 #[rv t, iv (4 : Int32), jv x, .second, iv (-1 : Int32), jv (0 : Int64), .second, .unset] [(.ref t), (.ref t)]) (fun t' k => XS.dup X4.here hx rfl (hb hby own_dA_22) rfl rfl k) ?_
  refine X4.getF hx hZ hown (hw _ (List.mem_of_getElem? (i := 59) rfl)) e4 F_rc (hb hby own_dA_23) ?_
  intro T5 X5 e5
  refine own_go (mkF m 28 #[rv t, iv (4 : Int32), jv x, .second, iv (-1 : Int32), jv (0 : Int64), .second, .unset] [(.long (0 : Int64)), (.long u3), (.ref t)]) (fun t' k => XS.lload X5.here hx rfl (hb hby own_dA_26) rfl  k) ?_
  refine own_go (mkF m 29 #[rv t, iv (4 : Int32), jv x, .second, iv (-1 : Int32), jv (0 : Int64), .second, .unset] [(.long (u3 + (0 : Int64))), (.ref t)]) (fun t' k => XS.ladd X5.here hx rfl (hb hby own_dA_28) rfl k) ?_
  refine X5.putF hx hZ hown (hw _ (List.mem_of_getElem? (i := 59) rfl)) e5 F_rc E_t g_t (Or.inl (hw _ (List.mem_of_getElem? (i := 60) rfl))) (hw _ (List.mem_of_getElem? (i := 2) rfl)) (ty := .long) (by decide) rfl rfl (hb hby own_dA_29) ?_
  intro T6 h6 X6 e6 W6
  replace E_t := E_t.wr W6
  replace A_w := A_w.other W6 (Ne.symm ne_t_w)
  replace A_bp := A_bp.other W6 (Ne.symm ne_t_bp)
  replace A_bs := A_bs.other W6 (Ne.symm ne_t_bs)
  replace A_bc := A_bc.other W6 (Ne.symm ne_t_bc)
  replace F_weights := F_weights.other W6 (Or.inr (own_sn_WeightTree_weights_risingCount hw))
  replace F_present := F_present.other W6 (Or.inr (own_sn_WeightTree_present_risingCount hw))
  replace F_sums := F_sums.other W6 (Or.inr (own_sn_WeightTree_sums_risingCount hw))
  replace F_counts := F_counts.other W6 (Or.inr (own_sn_WeightTree_counts_risingCount hw))
  replace F_top := F_top.other W6 (Or.inr (own_sn_WeightTree_top_risingCount hw))
  replace F_rising := F_rising.other W6 (Or.inr (own_sn_WeightTree_rising_risingCount hw))
  replace F_total := F_total.other W6 (Or.inr (own_sn_WeightTree_total_risingCount hw))
  replace F_taking := F_taking.other W6 (Or.inr (own_sn_WeightTree_taking_risingCount hw))
  replace F_rc := F_rc.same W6
  replace hn := Nat.le_trans hn (Keep.of_wr W6).1
  clear W6 X5 e5
  generalize (u3 + (0 : Int64)) = ug6 at F_rc
  refine own_go (mkF m 33 #[rv t, iv (4 : Int32), jv x, .second, iv (-1 : Int32), jv (0 : Int64), .second, .unset] [(.int (4 : Int32))]) (fun t' k => XS.iloadN X6.here hx rfl (hb hby own_dA_32) rfl  k) ?_
  refine own_go (mkF m 34 #[rv t, iv (4 : Int32), jv x, .second, iv (-1 : Int32), jv (0 : Int64), .second, .unset] [(.int (1 : Int32)), (.int (4 : Int32))]) (fun t' k => XS.iconst X6.here hx rfl (hb hby own_dA_33) k) ?_
  refine own_go (mkF m 35 #[rv t, iv (4 : Int32), jv x, .second, iv (-1 : Int32), jv (0 : Int64), .second, .unset] [(.int (5 : Int32))]) (fun t' k => XS.iadd X6.here hx rfl (hb hby own_dA_34) rfl k) ?_
  refine own_go (mkF m 37 #[rv t, iv (4 : Int32), jv x, .second, iv (-1 : Int32), jv (0 : Int64), .second, iv (5 : Int32)] []) (fun t' k => XS.istore X6.here hx rfl (hb hby own_dA_35) rfl (l' := #[rv t, iv (4 : Int32), jv x, .second, iv (-1 : Int32), jv (0 : Int64), .second, iv (5 : Int32)]) rfl k) ?_
  refine own_go (mkF m 39 #[rv t, iv (4 : Int32), jv x, .second, iv (-1 : Int32), jv (0 : Int64), .second, iv (5 : Int32)] [(.int (5 : Int32))]) (fun t' k => XS.iload X6.here hx rfl (hb hby own_dA_37) rfl  k) ?_
  refine own_go (mkF m 40 #[rv t, iv (4 : Int32), jv x, .second, iv (-1 : Int32), jv (0 : Int64), .second, iv (5 : Int32)] [(.ref t), (.int (5 : Int32))]) (fun t' k => XS.aloadN X6.here hx rfl (hb hby own_dA_39) rfl rfl  k) ?_
  refine X6.getF hx hZ hown (hw _ (List.mem_of_getElem? (i := 18) rfl)) e6 F_sums (hb hby own_dA_40) ?_
  intro T7 X7 e7
  refine X7.aleno hx hZ e7 A_bs (hb hby own_dA_43) ?_
  show own_G p e below s _ _ _ T7 (mkF m 44 #[rv t, iv (4 : Int32), jv x, .second, iv (-1 : Int32), jv (0 : Int64), .second, iv (5 : Int32)] [(.int (7 : Int32)), (.int (5 : Int32))])
  refine own_go (mkF m 47 #[rv t, iv (4 : Int32), jv x, .second, iv (-1 : Int32), jv (0 : Int64), .second, iv (5 : Int32)] []) (fun t' k => XS.icmpNo X7.here hx rfl (hb hby own_dA_44) rfl (tlt (by decide)).2.1 k) ?_
  refine own_go (mkF m 48 #[rv t, iv (4 : Int32), jv x, .second, iv (-1 : Int32), jv (0 : Int64), .second, iv (5 : Int32)] [(.ref t)]) (fun t' k => XS.aloadN X7.here hx rfl (hb hby own_dA_47) rfl rfl  k) ?_
  refine X7.getF hx hZ hown (hw _ (List.mem_of_getElem? (i := 18) rfl)) e7 F_sums (hb hby own_dA_48) ?_
  intro T8 X8 e8
  refine own_go (mkF m 53 #[rv t, iv (4 : Int32), jv x, .second, iv (-1 : Int32), jv (0 : Int64), .second, iv (5 : Int32)] [(.int (5 : Int32)), (.ref bs)]) (fun t' k => XS.iload X8.here hx rfl (hb hby own_dA_51) rfl  k) ?_
  refine own_go (mkF m 54 #[rv t, iv (4 : Int32), jv x, .second, iv (-1 : Int32), jv (0 : Int64), .second, iv (5 : Int32)] [(.int (5 : Int32)), (.ref bs), (.int (5 : Int32)), (.ref bs)]) (fun t' k => Jvm.Free.XT.dup2 X8.here hx rfl (hb hby own_dA_53) rfl rfl rfl k) ?_
  refine X8.ldJo hx hZ e8 A_bs 5 (by decide) (by decide) (hb hby own_dA_54) ?_
  rintro _ ⟨y9, rfl⟩
  refine own_go (mkF m 56 #[rv t, iv (4 : Int32), jv x, .second, iv (-1 : Int32), jv (0 : Int64), .second, iv (5 : Int32)] [(.long x), (.long y9), (.int (5 : Int32)), (.ref bs)]) (fun t' k => XS.lloadN X8.here hx rfl (hb hby own_dA_55) rfl  k) ?_
  refine own_go (mkF m 57 #[rv t, iv (4 : Int32), jv x, .second, iv (-1 : Int32), jv (0 : Int64), .second, iv (5 : Int32)] [(.long (y9 + x)), (.int (5 : Int32)), (.ref bs)]) (fun t' k => XS.ladd X8.here hx rfl (hb hby own_dA_56) rfl k) ?_
  refine X8.stJo hx hZ e8 A_bs g_bs 5 (by decide) (by decide) ⟨_, rfl⟩ (hb hby own_dA_57) ?_
  intro T10 h10 X10 e10 W10 A10
  replace A_bs := A10
  replace E_t := E_t.wr W10
  replace A_w := A_w.other W10 ne_w_bs
  replace A_bp := A_bp.other W10 ne_bp_bs
  replace A_bc := A_bc.other W10 (Ne.symm ne_bs_bc)
  replace F_weights := F_weights.other W10 (Or.inl ne_t_bs)
  replace F_present := F_present.other W10 (Or.inl ne_t_bs)
  replace F_sums := F_sums.other W10 (Or.inl ne_t_bs)
  replace F_counts := F_counts.other W10 (Or.inl ne_t_bs)
  replace F_top := F_top.other W10 (Or.inl ne_t_bs)
  replace F_rising := F_rising.other W10 (Or.inl ne_t_bs)
  replace F_total := F_total.other W10 (Or.inl ne_t_bs)
  replace F_taking := F_taking.other W10 (Or.inl ne_t_bs)
  replace F_rc := F_rc.other W10 (Or.inl ne_t_bs)
  replace hn := Nat.le_trans hn (Keep.of_wr W10).1
  clear W10 X8 e8
  refine own_go (mkF m 59 #[rv t, iv (4 : Int32), jv x, .second, iv (-1 : Int32), jv (0 : Int64), .second, iv (5 : Int32)] [(.ref t)]) (fun t' k => XS.aloadN X10.here hx rfl (hb hby own_dA_58) rfl rfl  k) ?_
  refine X10.getF hx hZ hown (hw _ (List.mem_of_getElem? (i := 21) rfl)) e10 F_counts (hb hby own_dA_59) ?_
  intro T11 X11 e11
  refine own_go (mkF m 64 #[rv t, iv (4 : Int32), jv x, .second, iv (-1 : Int32), jv (0 : Int64), .second, iv (5 : Int32)] [(.int (5 : Int32)), (.ref bc)]) (fun t' k => XS.iload X11.here hx rfl (hb hby own_dA_62) rfl  k) ?_
  refine own_go (mkF m 65 #[rv t, iv (4 : Int32), jv x, .second, iv (-1 : Int32), jv (0 : Int64), .second, iv (5 : Int32)] [(.int (5 : Int32)), (.ref bc), (.int (5 : Int32)), (.ref bc)]) (fun t' k => Jvm.Free.XT.dup2 X11.here hx rfl (hb hby own_dA_64) rfl rfl rfl k) ?_
  refine X11.ldI hx hZ e11 A_bc (v := (.int k5)) 5 (by decide) rfl (hb hby own_dA_65) ?_
  refine own_go (mkF m 68 #[rv t, iv (4 : Int32), jv x, .second, iv (-1 : Int32), jv (0 : Int64), .second, iv (5 : Int32)] [(.int (-1 : Int32)), (.int k5), (.int (5 : Int32)), (.ref bc)]) (fun t' k => XS.iload X11.here hx rfl (hb hby own_dA_66) rfl  k) ?_
  refine own_go (mkF m 69 #[rv t, iv (4 : Int32), jv x, .second, iv (-1 : Int32), jv (0 : Int64), .second, iv (5 : Int32)] [(.int (k5 + (-1 : Int32))), (.int (5 : Int32)), (.ref bc)]) (fun t' k => XS.iadd X11.here hx rfl (hb hby own_dA_68) rfl k) ?_
  refine X11.stI hx hZ e11 A_bc g_bc 5 (by decide) (Nat.le_of_ble_eq_true rfl) (hb hby own_dA_69) ?_
  intro T12 h12 X12 e12 W12 A12
  replace A_bc : own_A Z h12 .int bc [(.int k0), (.int k1), (.int k2), (.int k3), (.int k4), (.int (k5 + (-1 : Int32))), (.int k6)] := A12
  clear A12
  replace E_t := E_t.wr W12
  replace A_w := A_w.other W12 ne_w_bc
  replace A_bp := A_bp.other W12 ne_bp_bc
  replace A_bs := A_bs.other W12 ne_bs_bc
  replace F_weights := F_weights.other W12 (Or.inl ne_t_bc)
  replace F_present := F_present.other W12 (Or.inl ne_t_bc)
  replace F_sums := F_sums.other W12 (Or.inl ne_t_bc)
  replace F_counts := F_counts.other W12 (Or.inl ne_t_bc)
  replace F_top := F_top.other W12 (Or.inl ne_t_bc)
  replace F_rising := F_rising.other W12 (Or.inl ne_t_bc)
  replace F_total := F_total.other W12 (Or.inl ne_t_bc)
  replace F_taking := F_taking.other W12 (Or.inl ne_t_bc)
  replace F_rc := F_rc.other W12 (Or.inl ne_t_bc)
  replace hn := Nat.le_trans hn (Keep.of_wr W12).1
  clear W12 X11 e11
  refine own_go (mkF m 72 #[rv t, iv (4 : Int32), jv x, .second, iv (-1 : Int32), jv (0 : Int64), .second, iv (5 : Int32)] [(.long (0 : Int64))]) (fun t' k => XS.lload X12.here hx rfl (hb hby own_dA_70) rfl  k) ?_
  refine own_go (mkF m 73 #[rv t, iv (4 : Int32), jv x, .second, iv (-1 : Int32), jv (0 : Int64), .second, iv (5 : Int32)] [(.long (0 : Int64)), (.long (0 : Int64))]) (fun t' k => XS.lconst X12.here hx rfl (hb hby own_dA_72) k) ?_
  refine own_go (mkF m 74 #[rv t, iv (4 : Int32), jv x, .second, iv (-1 : Int32), jv (0 : Int64), .second, iv (5 : Int32)] [(.int (lcmpW (0 : Int64) (0 : Int64)))]) (fun t' k => XS.lcmp X12.here hx rfl (hb hby own_dA_73) rfl k) ?_
  refine own_go (mkF m 89 #[rv t, iv (4 : Int32), jv x, .second, iv (-1 : Int32), jv (0 : Int64), .second, iv (5 : Int32)] []) (fun t' k => XS.ifYes X12.here hx rfl (pc0 := 74) (pc' := 89) rfl (hb hby own_dA_74) rfl ((if0 _ _).trans (teq ((lw_eq (0 : Int64) (0 : Int64)).mpr (by decide : (0 : Int64) = (0 : Int64)))).1) (by decide) (by decide) k) ?_
  refine own_go (mkF m 91 #[rv t, iv (4 : Int32), jv x, .second, iv (-1 : Int32), jv (0 : Int64), .second, iv (5 : Int32)] [(.int (5 : Int32))]) (fun t' k => XS.iload X12.here hx rfl (hb hby own_dA_89) rfl  k) ?_
  refine own_go (mkF m 93 #[rv t, iv (4 : Int32), jv x, .second, iv (-1 : Int32), jv (0 : Int64), .second, iv (5 : Int32)] [(.int (5 : Int32)), (.int (5 : Int32))]) (fun t' k => XS.iload X12.here hx rfl (hb hby own_dA_91) rfl  k) ?_
  refine own_go (mkF m 95 #[rv t, iv (4 : Int32), jv x, .second, iv (-1 : Int32), jv (0 : Int64), .second, iv (5 : Int32)] [(.int (5 : Int32)), (.int (5 : Int32)), (.int (5 : Int32))]) (fun t' k => XS.iload X12.here hx rfl (hb hby own_dA_93) rfl  k) ?_
  refine own_go (mkF m 96 #[rv t, iv (4 : Int32), jv x, .second, iv (-1 : Int32), jv (0 : Int64), .second, iv (5 : Int32)] [(.int (-5 : Int32)), (.int (5 : Int32)), (.int (5 : Int32))]) (fun t' k => XS.ineg X12.here hx rfl (hb hby own_dA_95) rfl k) ?_
  refine own_go (mkF m 97 #[rv t, iv (4 : Int32), jv x, .second, iv (-1 : Int32), jv (0 : Int64), .second, iv (5 : Int32)] [(.int (1 : Int32)), (.int (5 : Int32))]) (fun t' k => XS.iand X12.here hx rfl (hb hby own_dA_96) rfl k) ?_
  refine own_go (mkF m 98 #[rv t, iv (4 : Int32), jv x, .second, iv (-1 : Int32), jv (0 : Int64), .second, iv (5 : Int32)] [(.int (6 : Int32))]) (fun t' k => XS.iadd X12.here hx rfl (hb hby own_dA_97) rfl k) ?_
  refine own_go (mkF m 100 #[rv t, iv (4 : Int32), jv x, .second, iv (-1 : Int32), jv (0 : Int64), .second, iv (6 : Int32)] []) (fun t' k => XS.istore X12.here hx rfl (hb hby own_dA_98) rfl (l' := #[rv t, iv (4 : Int32), jv x, .second, iv (-1 : Int32), jv (0 : Int64), .second, iv (6 : Int32)]) rfl k) ?_
  refine own_go (mkF m 37 #[rv t, iv (4 : Int32), jv x, .second, iv (-1 : Int32), jv (0 : Int64), .second, iv (6 : Int32)] []) (fun t' k => XS.goto X12.here hx rfl (pc0 := 100) (pc' := 37) rfl (hb hby own_dA_100) (by decide) (by decide) k) ?_
  refine own_go (mkF m 39 #[rv t, iv (4 : Int32), jv x, .second, iv (-1 : Int32), jv (0 : Int64), .second, iv (6 : Int32)] [(.int (6 : Int32))]) (fun t' k => XS.iload X12.here hx rfl (hb hby own_dA_37) rfl  k) ?_
  refine own_go (mkF m 40 #[rv t, iv (4 : Int32), jv x, .second, iv (-1 : Int32), jv (0 : Int64), .second, iv (6 : Int32)] [(.ref t), (.int (6 : Int32))]) (fun t' k => XS.aloadN X12.here hx rfl (hb hby own_dA_39) rfl rfl  k) ?_
  refine X12.getF hx hZ hown (hw _ (List.mem_of_getElem? (i := 18) rfl)) e12 F_sums (hb hby own_dA_40) ?_
  intro T13 X13 e13
  refine X13.aleno hx hZ e13 A_bs (hb hby own_dA_43) ?_
  show own_G p e below s _ _ _ T13 (mkF m 44 #[rv t, iv (4 : Int32), jv x, .second, iv (-1 : Int32), jv (0 : Int64), .second, iv (6 : Int32)] [(.int (7 : Int32)), (.int (6 : Int32))])
  refine own_go (mkF m 47 #[rv t, iv (4 : Int32), jv x, .second, iv (-1 : Int32), jv (0 : Int64), .second, iv (6 : Int32)] []) (fun t' k => XS.icmpNo X13.here hx rfl (hb hby own_dA_44) rfl (tlt (by decide)).2.1 k) ?_
  refine own_go (mkF m 48 #[rv t, iv (4 : Int32), jv x, .second, iv (-1 : Int32), jv (0 : Int64), .second, iv (6 : Int32)] [(.ref t)]) (fun t' k => XS.aloadN X13.here hx rfl (hb hby own_dA_47) rfl rfl  k) ?_
  refine X13.getF hx hZ hown (hw _ (List.mem_of_getElem? (i := 18) rfl)) e13 F_sums (hb hby own_dA_48) ?_
  intro T14 X14 e14
  refine own_go (mkF m 53 #[rv t, iv (4 : Int32), jv x, .second, iv (-1 : Int32), jv (0 : Int64), .second, iv (6 : Int32)] [(.int (6 : Int32)), (.ref bs)]) (fun t' k => XS.iload X14.here hx rfl (hb hby own_dA_51) rfl  k) ?_
  refine own_go (mkF m 54 #[rv t, iv (4 : Int32), jv x, .second, iv (-1 : Int32), jv (0 : Int64), .second, iv (6 : Int32)] [(.int (6 : Int32)), (.ref bs), (.int (6 : Int32)), (.ref bs)]) (fun t' k => Jvm.Free.XT.dup2 X14.here hx rfl (hb hby own_dA_53) rfl rfl rfl k) ?_
  refine X14.ldJo hx hZ e14 A_bs 6 (by decide) (by decide) (hb hby own_dA_54) ?_
  rintro _ ⟨y15, rfl⟩
  refine own_go (mkF m 56 #[rv t, iv (4 : Int32), jv x, .second, iv (-1 : Int32), jv (0 : Int64), .second, iv (6 : Int32)] [(.long x), (.long y15), (.int (6 : Int32)), (.ref bs)]) (fun t' k => XS.lloadN X14.here hx rfl (hb hby own_dA_55) rfl  k) ?_
  refine own_go (mkF m 57 #[rv t, iv (4 : Int32), jv x, .second, iv (-1 : Int32), jv (0 : Int64), .second, iv (6 : Int32)] [(.long (y15 + x)), (.int (6 : Int32)), (.ref bs)]) (fun t' k => XS.ladd X14.here hx rfl (hb hby own_dA_56) rfl k) ?_
  refine X14.stJo hx hZ e14 A_bs g_bs 6 (by decide) (by decide) ⟨_, rfl⟩ (hb hby own_dA_57) ?_
  intro T16 h16 X16 e16 W16 A16
  replace A_bs := A16
  replace E_t := E_t.wr W16
  replace A_w := A_w.other W16 ne_w_bs
  replace A_bp := A_bp.other W16 ne_bp_bs
  replace A_bc := A_bc.other W16 (Ne.symm ne_bs_bc)
  replace F_weights := F_weights.other W16 (Or.inl ne_t_bs)
  replace F_present := F_present.other W16 (Or.inl ne_t_bs)
  replace F_sums := F_sums.other W16 (Or.inl ne_t_bs)
  replace F_counts := F_counts.other W16 (Or.inl ne_t_bs)
  replace F_top := F_top.other W16 (Or.inl ne_t_bs)
  replace F_rising := F_rising.other W16 (Or.inl ne_t_bs)
  replace F_total := F_total.other W16 (Or.inl ne_t_bs)
  replace F_taking := F_taking.other W16 (Or.inl ne_t_bs)
  replace F_rc := F_rc.other W16 (Or.inl ne_t_bs)
  replace hn := Nat.le_trans hn (Keep.of_wr W16).1
  clear W16 X14 e14
  refine own_go (mkF m 59 #[rv t, iv (4 : Int32), jv x, .second, iv (-1 : Int32), jv (0 : Int64), .second, iv (6 : Int32)] [(.ref t)]) (fun t' k => XS.aloadN X16.here hx rfl (hb hby own_dA_58) rfl rfl  k) ?_
  refine X16.getF hx hZ hown (hw _ (List.mem_of_getElem? (i := 21) rfl)) e16 F_counts (hb hby own_dA_59) ?_
  intro T17 X17 e17
  refine own_go (mkF m 64 #[rv t, iv (4 : Int32), jv x, .second, iv (-1 : Int32), jv (0 : Int64), .second, iv (6 : Int32)] [(.int (6 : Int32)), (.ref bc)]) (fun t' k => XS.iload X17.here hx rfl (hb hby own_dA_62) rfl  k) ?_
  refine own_go (mkF m 65 #[rv t, iv (4 : Int32), jv x, .second, iv (-1 : Int32), jv (0 : Int64), .second, iv (6 : Int32)] [(.int (6 : Int32)), (.ref bc), (.int (6 : Int32)), (.ref bc)]) (fun t' k => Jvm.Free.XT.dup2 X17.here hx rfl (hb hby own_dA_64) rfl rfl rfl k) ?_
  refine X17.ldI hx hZ e17 A_bc (v := (.int k6)) 6 (by decide) rfl (hb hby own_dA_65) ?_
  refine own_go (mkF m 68 #[rv t, iv (4 : Int32), jv x, .second, iv (-1 : Int32), jv (0 : Int64), .second, iv (6 : Int32)] [(.int (-1 : Int32)), (.int k6), (.int (6 : Int32)), (.ref bc)]) (fun t' k => XS.iload X17.here hx rfl (hb hby own_dA_66) rfl  k) ?_
  refine own_go (mkF m 69 #[rv t, iv (4 : Int32), jv x, .second, iv (-1 : Int32), jv (0 : Int64), .second, iv (6 : Int32)] [(.int (k6 + (-1 : Int32))), (.int (6 : Int32)), (.ref bc)]) (fun t' k => XS.iadd X17.here hx rfl (hb hby own_dA_68) rfl k) ?_
  refine X17.stI hx hZ e17 A_bc g_bc 6 (by decide) (Nat.le_of_ble_eq_true rfl) (hb hby own_dA_69) ?_
  intro T18 h18 X18 e18 W18 A18
  replace A_bc : own_A Z h18 .int bc [(.int k0), (.int k1), (.int k2), (.int k3), (.int k4), (.int (k5 + (-1 : Int32))), (.int (k6 + (-1 : Int32)))] := A18
  clear A18
  replace E_t := E_t.wr W18
  replace A_w := A_w.other W18 ne_w_bc
  replace A_bp := A_bp.other W18 ne_bp_bc
  replace A_bs := A_bs.other W18 ne_bs_bc
  replace F_weights := F_weights.other W18 (Or.inl ne_t_bc)
  replace F_present := F_present.other W18 (Or.inl ne_t_bc)
  replace F_sums := F_sums.other W18 (Or.inl ne_t_bc)
  replace F_counts := F_counts.other W18 (Or.inl ne_t_bc)
  replace F_top := F_top.other W18 (Or.inl ne_t_bc)
  replace F_rising := F_rising.other W18 (Or.inl ne_t_bc)
  replace F_total := F_total.other W18 (Or.inl ne_t_bc)
  replace F_taking := F_taking.other W18 (Or.inl ne_t_bc)
  replace F_rc := F_rc.other W18 (Or.inl ne_t_bc)
  replace hn := Nat.le_trans hn (Keep.of_wr W18).1
  clear W18 X17 e17
  refine own_go (mkF m 72 #[rv t, iv (4 : Int32), jv x, .second, iv (-1 : Int32), jv (0 : Int64), .second, iv (6 : Int32)] [(.long (0 : Int64))]) (fun t' k => XS.lload X18.here hx rfl (hb hby own_dA_70) rfl  k) ?_
  refine own_go (mkF m 73 #[rv t, iv (4 : Int32), jv x, .second, iv (-1 : Int32), jv (0 : Int64), .second, iv (6 : Int32)] [(.long (0 : Int64)), (.long (0 : Int64))]) (fun t' k => XS.lconst X18.here hx rfl (hb hby own_dA_72) k) ?_
  refine own_go (mkF m 74 #[rv t, iv (4 : Int32), jv x, .second, iv (-1 : Int32), jv (0 : Int64), .second, iv (6 : Int32)] [(.int (lcmpW (0 : Int64) (0 : Int64)))]) (fun t' k => XS.lcmp X18.here hx rfl (hb hby own_dA_73) rfl k) ?_
  refine own_go (mkF m 89 #[rv t, iv (4 : Int32), jv x, .second, iv (-1 : Int32), jv (0 : Int64), .second, iv (6 : Int32)] []) (fun t' k => XS.ifYes X18.here hx rfl (pc0 := 74) (pc' := 89) rfl (hb hby own_dA_74) rfl ((if0 _ _).trans (teq ((lw_eq (0 : Int64) (0 : Int64)).mpr (by decide : (0 : Int64) = (0 : Int64)))).1) (by decide) (by decide) k) ?_
  refine own_go (mkF m 91 #[rv t, iv (4 : Int32), jv x, .second, iv (-1 : Int32), jv (0 : Int64), .second, iv (6 : Int32)] [(.int (6 : Int32))]) (fun t' k => XS.iload X18.here hx rfl (hb hby own_dA_89) rfl  k) ?_
  refine own_go (mkF m 93 #[rv t, iv (4 : Int32), jv x, .second, iv (-1 : Int32), jv (0 : Int64), .second, iv (6 : Int32)] [(.int (6 : Int32)), (.int (6 : Int32))]) (fun t' k => XS.iload X18.here hx rfl (hb hby own_dA_91) rfl  k) ?_
  refine own_go (mkF m 95 #[rv t, iv (4 : Int32), jv x, .second, iv (-1 : Int32), jv (0 : Int64), .second, iv (6 : Int32)] [(.int (6 : Int32)), (.int (6 : Int32)), (.int (6 : Int32))]) (fun t' k => XS.iload X18.here hx rfl (hb hby own_dA_93) rfl  k) ?_
  refine own_go (mkF m 96 #[rv t, iv (4 : Int32), jv x, .second, iv (-1 : Int32), jv (0 : Int64), .second, iv (6 : Int32)] [(.int (-6 : Int32)), (.int (6 : Int32)), (.int (6 : Int32))]) (fun t' k => XS.ineg X18.here hx rfl (hb hby own_dA_95) rfl k) ?_
  refine own_go (mkF m 97 #[rv t, iv (4 : Int32), jv x, .second, iv (-1 : Int32), jv (0 : Int64), .second, iv (6 : Int32)] [(.int (2 : Int32)), (.int (6 : Int32))]) (fun t' k => XS.iand X18.here hx rfl (hb hby own_dA_96) rfl k) ?_
  refine own_go (mkF m 98 #[rv t, iv (4 : Int32), jv x, .second, iv (-1 : Int32), jv (0 : Int64), .second, iv (6 : Int32)] [(.int (8 : Int32))]) (fun t' k => XS.iadd X18.here hx rfl (hb hby own_dA_97) rfl k) ?_
  refine own_go (mkF m 100 #[rv t, iv (4 : Int32), jv x, .second, iv (-1 : Int32), jv (0 : Int64), .second, iv (8 : Int32)] []) (fun t' k => XS.istore X18.here hx rfl (hb hby own_dA_98) rfl (l' := #[rv t, iv (4 : Int32), jv x, .second, iv (-1 : Int32), jv (0 : Int64), .second, iv (8 : Int32)]) rfl k) ?_
  refine own_go (mkF m 37 #[rv t, iv (4 : Int32), jv x, .second, iv (-1 : Int32), jv (0 : Int64), .second, iv (8 : Int32)] []) (fun t' k => XS.goto X18.here hx rfl (pc0 := 100) (pc' := 37) rfl (hb hby own_dA_100) (by decide) (by decide) k) ?_
  refine own_go (mkF m 39 #[rv t, iv (4 : Int32), jv x, .second, iv (-1 : Int32), jv (0 : Int64), .second, iv (8 : Int32)] [(.int (8 : Int32))]) (fun t' k => XS.iload X18.here hx rfl (hb hby own_dA_37) rfl  k) ?_
  refine own_go (mkF m 40 #[rv t, iv (4 : Int32), jv x, .second, iv (-1 : Int32), jv (0 : Int64), .second, iv (8 : Int32)] [(.ref t), (.int (8 : Int32))]) (fun t' k => XS.aloadN X18.here hx rfl (hb hby own_dA_39) rfl rfl  k) ?_
  refine X18.getF hx hZ hown (hw _ (List.mem_of_getElem? (i := 18) rfl)) e18 F_sums (hb hby own_dA_40) ?_
  intro T19 X19 e19
  refine X19.aleno hx hZ e19 A_bs (hb hby own_dA_43) ?_
  show own_G p e below s _ _ _ T19 (mkF m 44 #[rv t, iv (4 : Int32), jv x, .second, iv (-1 : Int32), jv (0 : Int64), .second, iv (8 : Int32)] [(.int (7 : Int32)), (.int (8 : Int32))])
  refine own_go (mkF m 103 #[rv t, iv (4 : Int32), jv x, .second, iv (-1 : Int32), jv (0 : Int64), .second, iv (8 : Int32)] []) (fun t' k => XS.icmpYes X19.here hx rfl (pc0 := 44) (pc' := 103) rfl (hb hby own_dA_44) rfl (flt (by decide)).2.1 (by decide) (by decide) k) ?_
  refine X19.retV hx hlk hret (hb hby own_dA_103) ?_ (by decide) (by decide)
  rw [e19]
  exact ⟨rfl, ⟨⟨hn, g_t, g_bp, g_bs, g_bc⟩, ⟨ne_t_w, ne_t_bp, ne_t_bs, ne_t_bc, ne_w_bp, ne_w_bs, ne_w_bc, ne_bp_bs, ne_bp_bc, ne_bs_bc⟩, ⟨E_t, A_w, A_bp, A_bs, A_bc⟩, ⟨F_weights, F_present, F_sums, F_counts, F_top, F_rising⟩, _, _, _, F_total, F_taking, F_rc⟩⟩

theorem own_pn_own_rmA5 : plainFor (⟨"com/example/load_across_peers/loadacrosspeers/internal/pick/WeightTree", "add", "(IJIJ)V"⟩ : MethodName) = true := plainFor_of_name (show plainName "com/example/load_across_peers/loadacrosspeers/internal/pick/WeightTree" = true by first | (simp [plainName, overriddenIn]; done) | decide +kernel)
set_option maxRecDepth 65536 in
set_option maxHeartbeats 40000000 in
theorem own_rmA5 (l : Launch) (Z : State) (a0 : Array Value) (hw : ∀ d ∈ tables_1, d.before a0 Z = true) (ws : List Jvm.Cond) (h0 : Heap) (n0 : Nat) (t w bp bs bc : Addr) (k0 k1 k2 k3 k4 k5 k6 : Int32) (HT : own_T Z h0 n0 t w bp bs bc [(.int k0), (.int k1), (.int k2), (.int k3), (.int k4), (.int k5), (.int k6)]) (x : Int64)  :
    own_C l Z (⟨"com/example/load_across_peers/loadacrosspeers/internal/pick/WeightTree", "add", "(IJIJ)V"⟩ : MethodName) prog_32_method_13_code 8 none ws ({ frames := 0, cells := 0, slots := 0, locals := 0 } : Room) #[(.ref t), (.int (5 : Int32)), (.long x), (.int (-1 : Int32)), (.long (0 : Int64))] h0 (own_Q n0 (fun v h => v = none ∧ own_T Z h n0 t w bp bs bc [(.int k0), (.int k1), (.int k2), (.int k3), (.int k4), (.int k5), (.int (k6 + (-1 : Int32)))])) := by
  refine own_met own_pn_own_rmA5 #[rv t, iv (5 : Int32), jv x, .second, iv (-1 : Int32), jv (0 : Int64), .second, .unset] (fun m => by first | (simp [entryFrame, mkF, argsToLocals, Value.category]; done) | rfl) ?_
  intro p e s m below meth c s₁ hx hby hml hown hret hlk hZ hnm X0 e0
  replace X0 := own_S.of X0 (n0)
  obtain ⟨⟨hn, g_t, g_bp, g_bs, g_bc⟩, ⟨ne_t_w, ne_t_bp, ne_t_bs, ne_t_bc, ne_w_bp, ne_w_bs, ne_w_bc, ne_bp_bs, ne_bp_bc, ne_bs_bc⟩, ⟨E_t, A_w, A_bp, A_bs, A_bc⟩, ⟨F_weights, F_present, F_sums, F_counts, F_top, F_rising⟩, u1, u2, u3, F_total, F_taking, F_rc⟩ := HT
  refine own_go (mkF m 1 #[rv t, iv (5 : Int32), jv x, .second, iv (-1 : Int32), jv (0 : Int64), .second, .unset] [(.ref t)]) (fun t' k => XS.aloadN X0.here hx rfl (hb hby own_dA_0) rfl rfl  k) ?_
  refine own_go (mkF m 2 #[rv t, iv (5 : Int32), jv x, .second, iv (-1 : Int32), jv (0 : Int64), .second, .unset] [(.ref t), (.ref t)]) (fun t' k => XS.dup X0.here hx rfl (hb hby own_dA_1) rfl rfl k) ?_
  refine X0.getF hx hZ hown (hw _ (List.mem_of_getElem? (i := 34) rfl)) e0 F_total (hb hby own_dA_2) ?_
  intro T1 X1 e1
  refine own_go (mkF m 6 #[rv t, iv (5 : Int32), jv x, .second, iv (-1 : Int32), jv (0 : Int64), .second, .unset] [(.long x), (.long u1), (.ref t)]) (fun t' k => XS.lloadN X1.here hx rfl (hb hby own_dA_5) rfl  k) ?_
  refine own_go (mkF m 7 #[rv t, iv (5 : Int32), jv x, .second, iv (-1 : Int32), jv (0 : Int64), .second, .unset] [(.long (u1 + x)), (.ref t)]) (fun t' k => XS.ladd X1.here hx rfl (hb hby own_dA_6) rfl k) ?_
  refine X1.putF hx hZ hown (hw _ (List.mem_of_getElem? (i := 34) rfl)) e1 F_total E_t g_t (Or.inl (hw _ (List.mem_of_getElem? (i := 35) rfl))) (hw _ (List.mem_of_getElem? (i := 2) rfl)) (ty := .long) (by decide) rfl rfl (hb hby own_dA_7) ?_
  intro T2 h2 X2 e2 W2
  replace E_t := E_t.wr W2
  replace A_w := A_w.other W2 (Ne.symm ne_t_w)
  replace A_bp := A_bp.other W2 (Ne.symm ne_t_bp)
  replace A_bs := A_bs.other W2 (Ne.symm ne_t_bs)
  replace A_bc := A_bc.other W2 (Ne.symm ne_t_bc)
  replace F_weights := F_weights.other W2 (Or.inr (own_sn_WeightTree_weights_total hw))
  replace F_present := F_present.other W2 (Or.inr (own_sn_WeightTree_present_total hw))
  replace F_sums := F_sums.other W2 (Or.inr (own_sn_WeightTree_sums_total hw))
  replace F_counts := F_counts.other W2 (Or.inr (own_sn_WeightTree_counts_total hw))
  replace F_top := F_top.other W2 (Or.inr (own_sn_WeightTree_top_total hw))
  replace F_rising := F_rising.other W2 (Or.inr (own_sn_WeightTree_rising_total hw))
  replace F_total := F_total.same W2
  replace F_taking := F_taking.other W2 (Or.inr (own_sn_WeightTree_taking_total hw))
  replace F_rc := F_rc.other W2 (Or.inr (own_sn_WeightTree_risingCount_total hw))
  replace hn := Nat.le_trans hn (Keep.of_wr W2).1
  clear W2 X1 e1
  generalize (u1 + x) = ug2 at F_total
  refine own_go (mkF m 11 #[rv t, iv (5 : Int32), jv x, .second, iv (-1 : Int32), jv (0 : Int64), .second, .unset] [(.ref t)]) (fun t' k => XS.aloadN X2.here hx rfl (hb hby own_dA_10) rfl rfl  k) ?_
  refine own_go (mkF m 12 #[rv t, iv (5 : Int32), jv x, .second, iv (-1 : Int32), jv (0 : Int64), .second, .unset] [(.ref t), (.ref t)]) (fun t' k => XS.dup X2.here hx rfl (hb hby own_dA_11) rfl rfl k) ?_
  refine X2.getF hx hZ hown (hw _ (List.mem_of_getElem? (i := 36) rfl)) e2 F_taking (hb hby own_dA_12) ?_
  intro T3 X3 e3
  refine own_go (mkF m 17 #[rv t, iv (5 : Int32), jv x, .second, iv (-1 : Int32), jv (0 : Int64), .second, .unset] [(.int (-1 : Int32)), (.int u2), (.ref t)]) (fun t' k => XS.iload X3.here hx rfl (hb hby own_dA_15) rfl  k) ?_
  refine own_go (mkF m 18 #[rv t, iv (5 : Int32), jv x, .second, iv (-1 : Int32), jv (0 : Int64), .second, .unset] [(.int (u2 + (-1 : Int32))), (.ref t)]) (fun t' k => XS.iadd X3.here hx rfl (hb hby own_dA_17) rfl k) ?_
  refine X3.putF hx hZ hown (hw _ (List.mem_of_getElem? (i := 36) rfl)) e3 F_taking E_t g_t (Or.inl (hw _ (List.mem_of_getElem? (i := 37) rfl))) (hw _ (List.mem_of_getElem? (i := 2) rfl)) (ty := .int) (by decide) rfl rfl (hb hby own_dA_18) ?_
  intro T4 h4 X4 e4 W4
  replace E_t := E_t.wr W4
  replace A_w := A_w.other W4 (Ne.symm ne_t_w)
  replace A_bp := A_bp.other W4 (Ne.symm ne_t_bp)
  replace A_bs := A_bs.other W4 (Ne.symm ne_t_bs)
  replace A_bc := A_bc.other W4 (Ne.symm ne_t_bc)
  replace F_weights := F_weights.other W4 (Or.inr (own_sn_WeightTree_weights_taking hw))
  replace F_present := F_present.other W4 (Or.inr (own_sn_WeightTree_present_taking hw))
  replace F_sums := F_sums.other W4 (Or.inr (own_sn_WeightTree_sums_taking hw))
  replace F_counts := F_counts.other W4 (Or.inr (own_sn_WeightTree_counts_taking hw))
  replace F_top := F_top.other W4 (Or.inr (own_sn_WeightTree_top_taking hw))
  replace F_rising := F_rising.other W4 (Or.inr (own_sn_WeightTree_rising_taking hw))
  replace F_total := F_total.other W4 (Or.inr (own_sn_WeightTree_total_taking hw))
  replace F_taking := F_taking.same W4
  replace F_rc := F_rc.other W4 (Or.inr (own_sn_WeightTree_risingCount_taking hw))
  replace hn := Nat.le_trans hn (Keep.of_wr W4).1
  clear W4 X3 e3
  generalize (u2 + (-1 : Int32)) = ug4 at F_taking
  refine own_go (mkF m 22 #[rv t, iv (5 : Int32), jv x, .second, iv (-1 : Int32), jv (0 : Int64), .second, .unset] [(.ref t)]) (fun t' k => XS.aloadN X4.here hx rfl (hb hby own_dA_21) rfl rfl  k) ?_
  refine own_go (mkF m 23 #[rv t, iv (5 : Int32), jv x, .second, iv (-1 : Int32), jv (0 : Int64), .second, .unset] [(.ref t), (.ref t)]) (fun t' k => XS.dup X4.here hx rfl (hb hby own_dA_22) rfl rfl k) ?_
  refine X4.getF hx hZ hown (hw _ (List.mem_of_getElem? (i := 59) rfl)) e4 F_rc (hb hby own_dA_23) ?_
  intro T5 X5 e5
  refine own_go (mkF m 28 #[rv t, iv (5 : Int32), jv x, .second, iv (-1 : Int32), jv (0 : Int64), .second, .unset] [(.long (0 : Int64)), (.long u3), (.ref t)]) (fun t' k => XS.lload X5.here hx rfl (hb hby own_dA_26) rfl  k) ?_
  refine own_go (mkF m 29 #[rv t, iv (5 : Int32), jv x, .second, iv (-1 : Int32), jv (0 : Int64), .second, .unset] [(.long (u3 + (0 : Int64))), (.ref t)]) (fun t' k => XS.ladd X5.here hx rfl (hb hby own_dA_28) rfl k) ?_
  refine X5.putF hx hZ hown (hw _ (List.mem_of_getElem? (i := 59) rfl)) e5 F_rc E_t g_t (Or.inl (hw _ (List.mem_of_getElem? (i := 60) rfl))) (hw _ (List.mem_of_getElem? (i := 2) rfl)) (ty := .long) (by decide) rfl rfl (hb hby own_dA_29) ?_
  intro T6 h6 X6 e6 W6
  replace E_t := E_t.wr W6
  replace A_w := A_w.other W6 (Ne.symm ne_t_w)
  replace A_bp := A_bp.other W6 (Ne.symm ne_t_bp)
  replace A_bs := A_bs.other W6 (Ne.symm ne_t_bs)
  replace A_bc := A_bc.other W6 (Ne.symm ne_t_bc)
  replace F_weights := F_weights.other W6 (Or.inr (own_sn_WeightTree_weights_risingCount hw))
  replace F_present := F_present.other W6 (Or.inr (own_sn_WeightTree_present_risingCount hw))
  replace F_sums := F_sums.other W6 (Or.inr (own_sn_WeightTree_sums_risingCount hw))
  replace F_counts := F_counts.other W6 (Or.inr (own_sn_WeightTree_counts_risingCount hw))
  replace F_top := F_top.other W6 (Or.inr (own_sn_WeightTree_top_risingCount hw))
  replace F_rising := F_rising.other W6 (Or.inr (own_sn_WeightTree_rising_risingCount hw))
  replace F_total := F_total.other W6 (Or.inr (own_sn_WeightTree_total_risingCount hw))
  replace F_taking := F_taking.other W6 (Or.inr (own_sn_WeightTree_taking_risingCount hw))
  replace F_rc := F_rc.same W6
  replace hn := Nat.le_trans hn (Keep.of_wr W6).1
  clear W6 X5 e5
  generalize (u3 + (0 : Int64)) = ug6 at F_rc
  refine own_go (mkF m 33 #[rv t, iv (5 : Int32), jv x, .second, iv (-1 : Int32), jv (0 : Int64), .second, .unset] [(.int (5 : Int32))]) (fun t' k => XS.iloadN X6.here hx rfl (hb hby own_dA_32) rfl  k) ?_
  refine own_go (mkF m 34 #[rv t, iv (5 : Int32), jv x, .second, iv (-1 : Int32), jv (0 : Int64), .second, .unset] [(.int (1 : Int32)), (.int (5 : Int32))]) (fun t' k => XS.iconst X6.here hx rfl (hb hby own_dA_33) k) ?_
  refine own_go (mkF m 35 #[rv t, iv (5 : Int32), jv x, .second, iv (-1 : Int32), jv (0 : Int64), .second, .unset] [(.int (6 : Int32))]) (fun t' k => XS.iadd X6.here hx rfl (hb hby own_dA_34) rfl k) ?_
  refine own_go (mkF m 37 #[rv t, iv (5 : Int32), jv x, .second, iv (-1 : Int32), jv (0 : Int64), .second, iv (6 : Int32)] []) (fun t' k => XS.istore X6.here hx rfl (hb hby own_dA_35) rfl (l' := #[rv t, iv (5 : Int32), jv x, .second, iv (-1 : Int32), jv (0 : Int64), .second, iv (6 : Int32)]) rfl k) ?_
  refine own_go (mkF m 39 #[rv t, iv (5 : Int32), jv x, .second, iv (-1 : Int32), jv (0 : Int64), .second, iv (6 : Int32)] [(.int (6 : Int32))]) (fun t' k => XS.iload X6.here hx rfl (hb hby own_dA_37) rfl  k) ?_
  refine own_go (mkF m 40 #[rv t, iv (5 : Int32), jv x, .second, iv (-1 : Int32), jv (0 : Int64), .second, iv (6 : Int32)] [(.ref t), (.int (6 : Int32))]) (fun t' k => XS.aloadN X6.here hx rfl (hb hby own_dA_39) rfl rfl  k) ?_
  refine X6.getF hx hZ hown (hw _ (List.mem_of_getElem? (i := 18) rfl)) e6 F_sums (hb hby own_dA_40) ?_
  intro T7 X7 e7
  refine X7.aleno hx hZ e7 A_bs (hb hby own_dA_43) ?_
  show own_G p e below s _ _ _ T7 (mkF m 44 #[rv t, iv (5 : Int32), jv x, .second, iv (-1 : Int32), jv (0 : Int64), .second, iv (6 : Int32)] [(.int (7 : Int32)), (.int (6 : Int32))])
  refine own_go (mkF m 47 #[rv t, iv (5 : Int32), jv x, .second, iv (-1 : Int32), jv (0 : Int64), .second, iv (6 : Int32)] []) (fun t' k => XS.icmpNo X7.here hx rfl (hb hby own_dA_44) rfl (tlt (by decide)).2.1 k) ?_
  refine own_go (mkF m 48 #[rv t, iv (5 : Int32), jv x, .second, iv (-1 : Int32), jv (0 : Int64), .second, iv (6 : Int32)] [(.ref t)]) (fun t' k => XS.aloadN X7.here hx rfl (hb hby own_dA_47) rfl rfl  k) ?_
  refine X7.getF hx hZ hown (hw _ (List.mem_of_getElem? (i := 18) rfl)) e7 F_sums (hb hby own_dA_48) ?_
  intro T8 X8 e8
  refine own_go (mkF m 53 #[rv t, iv (5 : Int32), jv x, .second, iv (-1 : Int32), jv (0 : Int64), .second, iv (6 : Int32)] [(.int (6 : Int32)), (.ref bs)]) (fun t' k => XS.iload X8.here hx rfl (hb hby own_dA_51) rfl  k) ?_
  refine own_go (mkF m 54 #[rv t, iv (5 : Int32), jv x, .second, iv (-1 : Int32), jv (0 : Int64), .second, iv (6 : Int32)] [(.int (6 : Int32)), (.ref bs), (.int (6 : Int32)), (.ref bs)]) (fun t' k => Jvm.Free.XT.dup2 X8.here hx rfl (hb hby own_dA_53) rfl rfl rfl k) ?_
  refine X8.ldJo hx hZ e8 A_bs 6 (by decide) (by decide) (hb hby own_dA_54) ?_
  rintro _ ⟨y9, rfl⟩
  refine own_go (mkF m 56 #[rv t, iv (5 : Int32), jv x, .second, iv (-1 : Int32), jv (0 : Int64), .second, iv (6 : Int32)] [(.long x), (.long y9), (.int (6 : Int32)), (.ref bs)]) (fun t' k => XS.lloadN X8.here hx rfl (hb hby own_dA_55) rfl  k) ?_
  refine own_go (mkF m 57 #[rv t, iv (5 : Int32), jv x, .second, iv (-1 : Int32), jv (0 : Int64), .second, iv (6 : Int32)] [(.long (y9 + x)), (.int (6 : Int32)), (.ref bs)]) (fun t' k => XS.ladd X8.here hx rfl (hb hby own_dA_56) rfl k) ?_
  refine X8.stJo hx hZ e8 A_bs g_bs 6 (by decide) (by decide) ⟨_, rfl⟩ (hb hby own_dA_57) ?_
  intro T10 h10 X10 e10 W10 A10
  replace A_bs := A10
  replace E_t := E_t.wr W10
  replace A_w := A_w.other W10 ne_w_bs
  replace A_bp := A_bp.other W10 ne_bp_bs
  replace A_bc := A_bc.other W10 (Ne.symm ne_bs_bc)
  replace F_weights := F_weights.other W10 (Or.inl ne_t_bs)
  replace F_present := F_present.other W10 (Or.inl ne_t_bs)
  replace F_sums := F_sums.other W10 (Or.inl ne_t_bs)
  replace F_counts := F_counts.other W10 (Or.inl ne_t_bs)
  replace F_top := F_top.other W10 (Or.inl ne_t_bs)
  replace F_rising := F_rising.other W10 (Or.inl ne_t_bs)
  replace F_total := F_total.other W10 (Or.inl ne_t_bs)
  replace F_taking := F_taking.other W10 (Or.inl ne_t_bs)
  replace F_rc := F_rc.other W10 (Or.inl ne_t_bs)
  replace hn := Nat.le_trans hn (Keep.of_wr W10).1
  clear W10 X8 e8
  refine own_go (mkF m 59 #[rv t, iv (5 : Int32), jv x, .second, iv (-1 : Int32), jv (0 : Int64), .second, iv (6 : Int32)] [(.ref t)]) (fun t' k => XS.aloadN X10.here hx rfl (hb hby own_dA_58) rfl rfl  k) ?_
  refine X10.getF hx hZ hown (hw _ (List.mem_of_getElem? (i := 21) rfl)) e10 F_counts (hb hby own_dA_59) ?_
  intro T11 X11 e11
  refine own_go (mkF m 64 #[rv t, iv (5 : Int32), jv x, .second, iv (-1 : Int32), jv (0 : Int64), .second, iv (6 : Int32)] [(.int (6 : Int32)), (.ref bc)]) (fun t' k => XS.iload X11.here hx rfl (hb hby own_dA_62) rfl  k) ?_
  refine own_go (mkF m 65 #[rv t, iv (5 : Int32), jv x, .second, iv (-1 : Int32), jv (0 : Int64), .second, iv (6 : Int32)] [(.int (6 : Int32)), (.ref bc), (.int (6 : Int32)), (.ref bc)]) (fun t' k => Jvm.Free.XT.dup2 X11.here hx rfl (hb hby own_dA_64) rfl rfl rfl k) ?_
  refine X11.ldI hx hZ e11 A_bc (v := (.int k6)) 6 (by decide) rfl (hb hby own_dA_65) ?_
  refine own_go (mkF m 68 #[rv t, iv (5 : Int32), jv x, .second, iv (-1 : Int32), jv (0 : Int64), .second, iv (6 : Int32)] [(.int (-1 : Int32)), (.int k6), (.int (6 : Int32)), (.ref bc)]) (fun t' k => XS.iload X11.here hx rfl (hb hby own_dA_66) rfl  k) ?_
  refine own_go (mkF m 69 #[rv t, iv (5 : Int32), jv x, .second, iv (-1 : Int32), jv (0 : Int64), .second, iv (6 : Int32)] [(.int (k6 + (-1 : Int32))), (.int (6 : Int32)), (.ref bc)]) (fun t' k => XS.iadd X11.here hx rfl (hb hby own_dA_68) rfl k) ?_
  refine X11.stI hx hZ e11 A_bc g_bc 6 (by decide) (Nat.le_of_ble_eq_true rfl) (hb hby own_dA_69) ?_
  intro T12 h12 X12 e12 W12 A12
  replace A_bc : own_A Z h12 .int bc [(.int k0), (.int k1), (.int k2), (.int k3), (.int k4), (.int k5), (.int (k6 + (-1 : Int32)))] := A12
  clear A12
  replace E_t := E_t.wr W12
  replace A_w := A_w.other W12 ne_w_bc
  replace A_bp := A_bp.other W12 ne_bp_bc
  replace A_bs := A_bs.other W12 ne_bs_bc
  replace F_weights := F_weights.other W12 (Or.inl ne_t_bc)
  replace F_present := F_present.other W12 (Or.inl ne_t_bc)
  replace F_sums := F_sums.other W12 (Or.inl ne_t_bc)
  replace F_counts := F_counts.other W12 (Or.inl ne_t_bc)
  replace F_top := F_top.other W12 (Or.inl ne_t_bc)
  replace F_rising := F_rising.other W12 (Or.inl ne_t_bc)
  replace F_total := F_total.other W12 (Or.inl ne_t_bc)
  replace F_taking := F_taking.other W12 (Or.inl ne_t_bc)
  replace F_rc := F_rc.other W12 (Or.inl ne_t_bc)
  replace hn := Nat.le_trans hn (Keep.of_wr W12).1
  clear W12 X11 e11
  refine own_go (mkF m 72 #[rv t, iv (5 : Int32), jv x, .second, iv (-1 : Int32), jv (0 : Int64), .second, iv (6 : Int32)] [(.long (0 : Int64))]) (fun t' k => XS.lload X12.here hx rfl (hb hby own_dA_70) rfl  k) ?_
  refine own_go (mkF m 73 #[rv t, iv (5 : Int32), jv x, .second, iv (-1 : Int32), jv (0 : Int64), .second, iv (6 : Int32)] [(.long (0 : Int64)), (.long (0 : Int64))]) (fun t' k => XS.lconst X12.here hx rfl (hb hby own_dA_72) k) ?_
  refine own_go (mkF m 74 #[rv t, iv (5 : Int32), jv x, .second, iv (-1 : Int32), jv (0 : Int64), .second, iv (6 : Int32)] [(.int (lcmpW (0 : Int64) (0 : Int64)))]) (fun t' k => XS.lcmp X12.here hx rfl (hb hby own_dA_73) rfl k) ?_
  refine own_go (mkF m 89 #[rv t, iv (5 : Int32), jv x, .second, iv (-1 : Int32), jv (0 : Int64), .second, iv (6 : Int32)] []) (fun t' k => XS.ifYes X12.here hx rfl (pc0 := 74) (pc' := 89) rfl (hb hby own_dA_74) rfl ((if0 _ _).trans (teq ((lw_eq (0 : Int64) (0 : Int64)).mpr (by decide : (0 : Int64) = (0 : Int64)))).1) (by decide) (by decide) k) ?_
  refine own_go (mkF m 91 #[rv t, iv (5 : Int32), jv x, .second, iv (-1 : Int32), jv (0 : Int64), .second, iv (6 : Int32)] [(.int (6 : Int32))]) (fun t' k => XS.iload X12.here hx rfl (hb hby own_dA_89) rfl  k) ?_
  refine own_go (mkF m 93 #[rv t, iv (5 : Int32), jv x, .second, iv (-1 : Int32), jv (0 : Int64), .second, iv (6 : Int32)] [(.int (6 : Int32)), (.int (6 : Int32))]) (fun t' k => XS.iload X12.here hx rfl (hb hby own_dA_91) rfl  k) ?_
  refine own_go (mkF m 95 #[rv t, iv (5 : Int32), jv x, .second, iv (-1 : Int32), jv (0 : Int64), .second, iv (6 : Int32)] [(.int (6 : Int32)), (.int (6 : Int32)), (.int (6 : Int32))]) (fun t' k => XS.iload X12.here hx rfl (hb hby own_dA_93) rfl  k) ?_
  refine own_go (mkF m 96 #[rv t, iv (5 : Int32), jv x, .second, iv (-1 : Int32), jv (0 : Int64), .second, iv (6 : Int32)] [(.int (-6 : Int32)), (.int (6 : Int32)), (.int (6 : Int32))]) (fun t' k => XS.ineg X12.here hx rfl (hb hby own_dA_95) rfl k) ?_
  refine own_go (mkF m 97 #[rv t, iv (5 : Int32), jv x, .second, iv (-1 : Int32), jv (0 : Int64), .second, iv (6 : Int32)] [(.int (2 : Int32)), (.int (6 : Int32))]) (fun t' k => XS.iand X12.here hx rfl (hb hby own_dA_96) rfl k) ?_
  refine own_go (mkF m 98 #[rv t, iv (5 : Int32), jv x, .second, iv (-1 : Int32), jv (0 : Int64), .second, iv (6 : Int32)] [(.int (8 : Int32))]) (fun t' k => XS.iadd X12.here hx rfl (hb hby own_dA_97) rfl k) ?_
  refine own_go (mkF m 100 #[rv t, iv (5 : Int32), jv x, .second, iv (-1 : Int32), jv (0 : Int64), .second, iv (8 : Int32)] []) (fun t' k => XS.istore X12.here hx rfl (hb hby own_dA_98) rfl (l' := #[rv t, iv (5 : Int32), jv x, .second, iv (-1 : Int32), jv (0 : Int64), .second, iv (8 : Int32)]) rfl k) ?_
  refine own_go (mkF m 37 #[rv t, iv (5 : Int32), jv x, .second, iv (-1 : Int32), jv (0 : Int64), .second, iv (8 : Int32)] []) (fun t' k => XS.goto X12.here hx rfl (pc0 := 100) (pc' := 37) rfl (hb hby own_dA_100) (by decide) (by decide) k) ?_
  refine own_go (mkF m 39 #[rv t, iv (5 : Int32), jv x, .second, iv (-1 : Int32), jv (0 : Int64), .second, iv (8 : Int32)] [(.int (8 : Int32))]) (fun t' k => XS.iload X12.here hx rfl (hb hby own_dA_37) rfl  k) ?_
  refine own_go (mkF m 40 #[rv t, iv (5 : Int32), jv x, .second, iv (-1 : Int32), jv (0 : Int64), .second, iv (8 : Int32)] [(.ref t), (.int (8 : Int32))]) (fun t' k => XS.aloadN X12.here hx rfl (hb hby own_dA_39) rfl rfl  k) ?_
  refine X12.getF hx hZ hown (hw _ (List.mem_of_getElem? (i := 18) rfl)) e12 F_sums (hb hby own_dA_40) ?_
  intro T13 X13 e13
  refine X13.aleno hx hZ e13 A_bs (hb hby own_dA_43) ?_
  show own_G p e below s _ _ _ T13 (mkF m 44 #[rv t, iv (5 : Int32), jv x, .second, iv (-1 : Int32), jv (0 : Int64), .second, iv (8 : Int32)] [(.int (7 : Int32)), (.int (8 : Int32))])
  refine own_go (mkF m 103 #[rv t, iv (5 : Int32), jv x, .second, iv (-1 : Int32), jv (0 : Int64), .second, iv (8 : Int32)] []) (fun t' k => XS.icmpYes X13.here hx rfl (pc0 := 44) (pc' := 103) rfl (hb hby own_dA_44) rfl (flt (by decide)).2.1 (by decide) (by decide) k) ?_
  refine X13.retV hx hlk hret (hb hby own_dA_103) ?_ (by decide) (by decide)
  rw [e13]
  exact ⟨rfl, ⟨⟨hn, g_t, g_bp, g_bs, g_bc⟩, ⟨ne_t_w, ne_t_bp, ne_t_bs, ne_t_bc, ne_w_bp, ne_w_bs, ne_w_bc, ne_bp_bs, ne_bp_bc, ne_bs_bc⟩, ⟨E_t, A_w, A_bp, A_bs, A_bc⟩, ⟨F_weights, F_present, F_sums, F_counts, F_top, F_rising⟩, _, _, _, F_total, F_taking, F_rc⟩⟩

theorem own_dW_0 : decode prog_32_method_8_code 0 = .ok (.aload_n 0, 1) := by decide +kernel
theorem own_dW_1 : decode prog_32_method_8_code 1 = .ok (.iload_n 1, 1) := by decide +kernel
theorem own_dW_2 : decode prog_32_method_8_code 2 = .ok (.invokevirtual 68, 3) := by decide +kernel
theorem own_dW_5 : decode prog_32_method_8_code 5 = .ok (.ifCond .eq 14, 3) := by decide +kernel
theorem own_dW_19 : decode prog_32_method_8_code 19 = .ok (.aload_n 0, 1) := by decide +kernel
theorem own_dW_20 : decode prog_32_method_8_code 20 = .ok (.getfield 22, 3) := by decide +kernel
theorem own_dW_23 : decode prog_32_method_8_code 23 = .ok (.iload_n 1, 1) := by decide +kernel
theorem own_dW_24 : decode prog_32_method_8_code 24 = .ok (.iconst 0, 1) := by decide +kernel
theorem own_dW_25 : decode prog_32_method_8_code 25 = .ok (.bastore, 1) := by decide +kernel
theorem own_dW_26 : decode prog_32_method_8_code 26 = .ok (.aload_n 0, 1) := by decide +kernel
theorem own_dW_27 : decode prog_32_method_8_code 27 = .ok (.iload_n 1, 1) := by decide +kernel
theorem own_dW_28 : decode prog_32_method_8_code 28 = .ok (.aload_n 0, 1) := by decide +kernel
theorem own_dW_29 : decode prog_32_method_8_code 29 = .ok (.getfield 18, 3) := by decide +kernel
theorem own_dW_32 : decode prog_32_method_8_code 32 = .ok (.iload_n 1, 1) := by decide +kernel
theorem own_dW_33 : decode prog_32_method_8_code 33 = .ok (.laload, 1) := by decide +kernel
theorem own_dW_34 : decode prog_32_method_8_code 34 = .ok (.lneg, 1) := by decide +kernel
theorem own_dW_35 : decode prog_32_method_8_code 35 = .ok (.iconst (-1), 1) := by decide +kernel
theorem own_dW_36 : decode prog_32_method_8_code 36 = .ok (.lconst 0, 1) := by decide +kernel
theorem own_dW_37 : decode prog_32_method_8_code 37 = .ok (.invokevirtual 72, 3) := by decide +kernel
theorem own_dW_40 : decode prog_32_method_8_code 40 = .ok (.return_, 1) := by decide +kernel
theorem own_pn_own_rmW0 : plainFor (⟨"com/example/load_across_peers/loadacrosspeers/internal/pick/WeightTree", "withdraw", "(I)V"⟩ : MethodName) = true := plainFor_of_name (show plainName "com/example/load_across_peers/loadacrosspeers/internal/pick/WeightTree" = true by first | (simp [plainName, overriddenIn]; done) | decide +kernel)
set_option maxRecDepth 65536 in
set_option maxHeartbeats 40000000 in
theorem own_rmW0 (l : Launch) (Z : State) (a0 : Array Value) (hw : ∀ d ∈ tables_1, d.before a0 Z = true) (ws : List Jvm.Cond) (h0 : Heap) (n0 : Nat) (t w bp bs bc : Addr) (k0 k1 k2 k3 k4 k5 k6 : Int32) (HT : own_T Z h0 n0 t w bp bs bc [(.int k0), (.int k1), (.int k2), (.int k3), (.int k4), (.int k5), (.int k6)])  :
    own_C l Z (⟨"com/example/load_across_peers/loadacrosspeers/internal/pick/WeightTree", "withdraw", "(I)V"⟩ : MethodName) prog_32_method_8_code 2 none ws ({ frames := 1, cells := 0, slots := 0, locals := 19 } : Room) #[(.ref t), (.int (0 : Int32))] h0 (own_Q n0 (fun v h => v = none ∧ own_T Z h n0 t w bp bs bc [(.int k0), (.int (k1 + (-1 : Int32))), (.int (k2 + (-1 : Int32))), (.int k3), (.int (k4 + (-1 : Int32))), (.int k5), (.int k6)])) := by
  refine own_met own_pn_own_rmW0 #[rv t, iv (0 : Int32)] (fun m => by first | (simp [entryFrame, mkF, argsToLocals, Value.category]; done) | rfl) ?_
  intro p e s m below meth c s₁ hx hby hml hown hret hlk hZ hnm X0 e0
  replace X0 := own_S.of X0 (n0)
  have HT0 := HT
  obtain ⟨⟨hn, g_t, g_bp, g_bs, g_bc⟩, ⟨ne_t_w, ne_t_bp, ne_t_bs, ne_t_bc, ne_w_bp, ne_w_bs, ne_w_bc, ne_bp_bs, ne_bp_bc, ne_bs_bc⟩, ⟨E_t, A_w, A_bp, A_bs, A_bc⟩, ⟨F_weights, F_present, F_sums, F_counts, F_top, F_rising⟩, u1, u2, u3, F_total, F_taking, F_rc⟩ := HT0
  refine own_go (mkF m 1 #[rv t, iv (0 : Int32)] [(.ref t)]) (fun t' k => XS.aloadN X0.here hx rfl (hb hby own_dW_0) rfl rfl  k) ?_
  refine own_go (mkF m 2 #[rv t, iv (0 : Int32)] [(.int (0 : Int32)), (.ref t)]) (fun t' k => XS.iloadN X0.here hx rfl (hb hby own_dW_1) rfl  k) ?_
  refine X0.callR hx hZ (y := (⟨"com/example/load_across_peers/loadacrosspeers/internal/pick/WeightTree", "rises", "(I)Z"⟩ : MethodName)) hown (hw _ (List.mem_of_getElem? (i := 49) rfl)) (hw _ (List.mem_of_getElem? (i := 2) rfl)) (hw _ (List.mem_of_getElem? (i := 51) rfl)) (hw _ (List.mem_of_getElem? (i := 50) rfl)) (hw _ (List.mem_of_getElem? (i := 3) rfl)) (hw _ (List.mem_of_getElem? (i := 52) rfl)) (by decide) e0 E_t [(.int (0 : Int32))] [] (own_rmR l Z a0 hw [] h0 n0 t w bp bs bc k0 k1 k2 k3 k4 k5 k6 HT (0 : Int32)) 0 (by decide) (by decide) (Nat.le_of_eq rfl) (by decide) (by decide) (by rw [hml]; rfl) (lenOf own_pd1 rfl) rfl (hb hby own_dW_2) ?_
  rintro T1 _ X1 ⟨rfl, e1⟩
  show own_G p e below s _ _ _ T1 (mkF m 5 #[rv t, iv (0 : Int32)] [(.int (0 : Int32))])
  refine own_go (mkF m 19 #[rv t, iv (0 : Int32)] []) (fun t' k => XS.ifYes X1.here hx rfl (pc0 := 5) (pc' := 19) rfl (hb hby own_dW_5) rfl ((if0 _ _).trans (teq (by decide)).1) (by decide) (by decide) k) ?_
  refine own_go (mkF m 20 #[rv t, iv (0 : Int32)] [(.ref t)]) (fun t' k => XS.aloadN X1.here hx rfl (hb hby own_dW_19) rfl rfl  k) ?_
  refine X1.getF hx hZ hown (hw _ (List.mem_of_getElem? (i := 16) rfl)) e1 F_present (hb hby own_dW_20) ?_
  intro T2 X2 e2
  refine own_go (mkF m 24 #[rv t, iv (0 : Int32)] [(.int (0 : Int32)), (.ref bp)]) (fun t' k => XS.iloadN X2.here hx rfl (hb hby own_dW_23) rfl  k) ?_
  refine own_go (mkF m 25 #[rv t, iv (0 : Int32)] [(.int (0 : Int32)), (.int (0 : Int32)), (.ref bp)]) (fun t' k => XS.iconst X2.here hx rfl (hb hby own_dW_24) k) ?_
  refine X2.stZo hx hZ e2 A_bp g_bp 0 (by decide) (by decide) ⟨_, rfl⟩ (hb hby own_dW_25) ?_
  intro T3 h3 X3 e3 W3 A3
  replace A_bp := A3
  replace E_t := E_t.wr W3
  replace A_w := A_w.other W3 ne_w_bp
  replace A_bs := A_bs.other W3 (Ne.symm ne_bp_bs)
  replace A_bc := A_bc.other W3 (Ne.symm ne_bp_bc)
  replace F_weights := F_weights.other W3 (Or.inl ne_t_bp)
  replace F_present := F_present.other W3 (Or.inl ne_t_bp)
  replace F_sums := F_sums.other W3 (Or.inl ne_t_bp)
  replace F_counts := F_counts.other W3 (Or.inl ne_t_bp)
  replace F_top := F_top.other W3 (Or.inl ne_t_bp)
  replace F_rising := F_rising.other W3 (Or.inl ne_t_bp)
  replace F_total := F_total.other W3 (Or.inl ne_t_bp)
  replace F_taking := F_taking.other W3 (Or.inl ne_t_bp)
  replace F_rc := F_rc.other W3 (Or.inl ne_t_bp)
  replace hn := Nat.le_trans hn (Keep.of_wr W3).1
  clear W3 X2 e2
  refine own_go (mkF m 27 #[rv t, iv (0 : Int32)] [(.ref t)]) (fun t' k => XS.aloadN X3.here hx rfl (hb hby own_dW_26) rfl rfl  k) ?_
  refine own_go (mkF m 28 #[rv t, iv (0 : Int32)] [(.int (0 : Int32)), (.ref t)]) (fun t' k => XS.iloadN X3.here hx rfl (hb hby own_dW_27) rfl  k) ?_
  refine own_go (mkF m 29 #[rv t, iv (0 : Int32)] [(.ref t), (.int (0 : Int32)), (.ref t)]) (fun t' k => XS.aloadN X3.here hx rfl (hb hby own_dW_28) rfl rfl  k) ?_
  refine X3.getF hx hZ hown (hw _ (List.mem_of_getElem? (i := 13) rfl)) e3 F_weights (hb hby own_dW_29) ?_
  intro T4 X4 e4
  refine own_go (mkF m 33 #[rv t, iv (0 : Int32)] [(.int (0 : Int32)), (.ref w), (.int (0 : Int32)), (.ref t)]) (fun t' k => XS.iloadN X4.here hx rfl (hb hby own_dW_32) rfl  k) ?_
  refine X4.ldJo hx hZ e4 A_w 0 (by decide) (by decide) (hb hby own_dW_33) ?_
  rintro _ ⟨y5, rfl⟩
  refine own_go (mkF m 35 #[rv t, iv (0 : Int32)] [(.long (-y5)), (.int (0 : Int32)), (.ref t)]) (fun t' k => XS.lneg X4.here hx rfl (hb hby own_dW_34) rfl k) ?_
  refine own_go (mkF m 36 #[rv t, iv (0 : Int32)] [(.int (-1 : Int32)), (.long (-y5)), (.int (0 : Int32)), (.ref t)]) (fun t' k => XS.iconst X4.here hx rfl (hb hby own_dW_35) k) ?_
  refine own_go (mkF m 37 #[rv t, iv (0 : Int32)] [(.long (0 : Int64)), (.int (-1 : Int32)), (.long (-y5)), (.int (0 : Int32)), (.ref t)]) (fun t' k => XS.lconst X4.here hx rfl (hb hby own_dW_36) k) ?_
  refine X4.callR hx hZ (y := (⟨"com/example/load_across_peers/loadacrosspeers/internal/pick/WeightTree", "add", "(IJIJ)V"⟩ : MethodName)) hown (hw _ (List.mem_of_getElem? (i := 55) rfl)) (hw _ (List.mem_of_getElem? (i := 2) rfl)) (hw _ (List.mem_of_getElem? (i := 57) rfl)) (hw _ (List.mem_of_getElem? (i := 56) rfl)) (hw _ (List.mem_of_getElem? (i := 3) rfl)) (hw _ (List.mem_of_getElem? (i := 58) rfl)) (by decide) e4 E_t [(.int (0 : Int32)), (.long (-y5)), (.int (-1 : Int32)), (.long (0 : Int64))] [] (own_rmA0 l Z a0 hw [] h3 n0 t w bp bs bc k0 k1 k2 k3 k4 k5 k6 ⟨⟨hn, g_t, g_bp, g_bs, g_bc⟩, ⟨ne_t_w, ne_t_bp, ne_t_bs, ne_t_bc, ne_w_bp, ne_w_bs, ne_w_bc, ne_bp_bs, ne_bp_bc, ne_bs_bc⟩, ⟨E_t, A_w, A_bp, A_bs, A_bc⟩, ⟨F_weights, F_present, F_sums, F_counts, F_top, F_rising⟩, _, _, _, F_total, F_taking, F_rc⟩ (-y5)) 0 (by decide) (by decide) (Nat.le_of_eq rfl) (by decide) (by decide) (by rw [hml]; rfl) (lenOf own_pd2 rfl) rfl (hb hby own_dW_37) ?_
  rintro T6 _ X6 ⟨rfl, HT2⟩
  show own_G p e below s _ _ _ T6 (mkF m 40 #[rv t, iv (0 : Int32)] [])
  refine X6.retV hx hlk hret (hb hby own_dW_40) ?_ (by decide) (by decide)
  exact ⟨rfl, HT2⟩

theorem own_pn_own_rmW1 : plainFor (⟨"com/example/load_across_peers/loadacrosspeers/internal/pick/WeightTree", "withdraw", "(I)V"⟩ : MethodName) = true := plainFor_of_name (show plainName "com/example/load_across_peers/loadacrosspeers/internal/pick/WeightTree" = true by first | (simp [plainName, overriddenIn]; done) | decide +kernel)
set_option maxRecDepth 65536 in
set_option maxHeartbeats 40000000 in
theorem own_rmW1 (l : Launch) (Z : State) (a0 : Array Value) (hw : ∀ d ∈ tables_1, d.before a0 Z = true) (ws : List Jvm.Cond) (h0 : Heap) (n0 : Nat) (t w bp bs bc : Addr) (k0 k1 k2 k3 k4 k5 k6 : Int32) (HT : own_T Z h0 n0 t w bp bs bc [(.int k0), (.int k1), (.int k2), (.int k3), (.int k4), (.int k5), (.int k6)])  :
    own_C l Z (⟨"com/example/load_across_peers/loadacrosspeers/internal/pick/WeightTree", "withdraw", "(I)V"⟩ : MethodName) prog_32_method_8_code 2 none ws ({ frames := 1, cells := 0, slots := 0, locals := 19 } : Room) #[(.ref t), (.int (1 : Int32))] h0 (own_Q n0 (fun v h => v = none ∧ own_T Z h n0 t w bp bs bc [(.int k0), (.int k1), (.int (k2 + (-1 : Int32))), (.int k3), (.int (k4 + (-1 : Int32))), (.int k5), (.int k6)])) := by
  refine own_met own_pn_own_rmW1 #[rv t, iv (1 : Int32)] (fun m => by first | (simp [entryFrame, mkF, argsToLocals, Value.category]; done) | rfl) ?_
  intro p e s m below meth c s₁ hx hby hml hown hret hlk hZ hnm X0 e0
  replace X0 := own_S.of X0 (n0)
  have HT0 := HT
  obtain ⟨⟨hn, g_t, g_bp, g_bs, g_bc⟩, ⟨ne_t_w, ne_t_bp, ne_t_bs, ne_t_bc, ne_w_bp, ne_w_bs, ne_w_bc, ne_bp_bs, ne_bp_bc, ne_bs_bc⟩, ⟨E_t, A_w, A_bp, A_bs, A_bc⟩, ⟨F_weights, F_present, F_sums, F_counts, F_top, F_rising⟩, u1, u2, u3, F_total, F_taking, F_rc⟩ := HT0
  refine own_go (mkF m 1 #[rv t, iv (1 : Int32)] [(.ref t)]) (fun t' k => XS.aloadN X0.here hx rfl (hb hby own_dW_0) rfl rfl  k) ?_
  refine own_go (mkF m 2 #[rv t, iv (1 : Int32)] [(.int (1 : Int32)), (.ref t)]) (fun t' k => XS.iloadN X0.here hx rfl (hb hby own_dW_1) rfl  k) ?_
  refine X0.callR hx hZ (y := (⟨"com/example/load_across_peers/loadacrosspeers/internal/pick/WeightTree", "rises", "(I)Z"⟩ : MethodName)) hown (hw _ (List.mem_of_getElem? (i := 49) rfl)) (hw _ (List.mem_of_getElem? (i := 2) rfl)) (hw _ (List.mem_of_getElem? (i := 51) rfl)) (hw _ (List.mem_of_getElem? (i := 50) rfl)) (hw _ (List.mem_of_getElem? (i := 3) rfl)) (hw _ (List.mem_of_getElem? (i := 52) rfl)) (by decide) e0 E_t [(.int (1 : Int32))] [] (own_rmR l Z a0 hw [] h0 n0 t w bp bs bc k0 k1 k2 k3 k4 k5 k6 HT (1 : Int32)) 0 (by decide) (by decide) (Nat.le_of_eq rfl) (by decide) (by decide) (by rw [hml]; rfl) (lenOf own_pd1 rfl) rfl (hb hby own_dW_2) ?_
  rintro T1 _ X1 ⟨rfl, e1⟩
  show own_G p e below s _ _ _ T1 (mkF m 5 #[rv t, iv (1 : Int32)] [(.int (0 : Int32))])
  refine own_go (mkF m 19 #[rv t, iv (1 : Int32)] []) (fun t' k => XS.ifYes X1.here hx rfl (pc0 := 5) (pc' := 19) rfl (hb hby own_dW_5) rfl ((if0 _ _).trans (teq (by decide)).1) (by decide) (by decide) k) ?_
  refine own_go (mkF m 20 #[rv t, iv (1 : Int32)] [(.ref t)]) (fun t' k => XS.aloadN X1.here hx rfl (hb hby own_dW_19) rfl rfl  k) ?_
  refine X1.getF hx hZ hown (hw _ (List.mem_of_getElem? (i := 16) rfl)) e1 F_present (hb hby own_dW_20) ?_
  intro T2 X2 e2
  refine own_go (mkF m 24 #[rv t, iv (1 : Int32)] [(.int (1 : Int32)), (.ref bp)]) (fun t' k => XS.iloadN X2.here hx rfl (hb hby own_dW_23) rfl  k) ?_
  refine own_go (mkF m 25 #[rv t, iv (1 : Int32)] [(.int (0 : Int32)), (.int (1 : Int32)), (.ref bp)]) (fun t' k => XS.iconst X2.here hx rfl (hb hby own_dW_24) k) ?_
  refine X2.stZo hx hZ e2 A_bp g_bp 1 (by decide) (by decide) ⟨_, rfl⟩ (hb hby own_dW_25) ?_
  intro T3 h3 X3 e3 W3 A3
  replace A_bp := A3
  replace E_t := E_t.wr W3
  replace A_w := A_w.other W3 ne_w_bp
  replace A_bs := A_bs.other W3 (Ne.symm ne_bp_bs)
  replace A_bc := A_bc.other W3 (Ne.symm ne_bp_bc)
  replace F_weights := F_weights.other W3 (Or.inl ne_t_bp)
  replace F_present := F_present.other W3 (Or.inl ne_t_bp)
  replace F_sums := F_sums.other W3 (Or.inl ne_t_bp)
  replace F_counts := F_counts.other W3 (Or.inl ne_t_bp)
  replace F_top := F_top.other W3 (Or.inl ne_t_bp)
  replace F_rising := F_rising.other W3 (Or.inl ne_t_bp)
  replace F_total := F_total.other W3 (Or.inl ne_t_bp)
  replace F_taking := F_taking.other W3 (Or.inl ne_t_bp)
  replace F_rc := F_rc.other W3 (Or.inl ne_t_bp)
  replace hn := Nat.le_trans hn (Keep.of_wr W3).1
  clear W3 X2 e2
  refine own_go (mkF m 27 #[rv t, iv (1 : Int32)] [(.ref t)]) (fun t' k => XS.aloadN X3.here hx rfl (hb hby own_dW_26) rfl rfl  k) ?_
  refine own_go (mkF m 28 #[rv t, iv (1 : Int32)] [(.int (1 : Int32)), (.ref t)]) (fun t' k => XS.iloadN X3.here hx rfl (hb hby own_dW_27) rfl  k) ?_
  refine own_go (mkF m 29 #[rv t, iv (1 : Int32)] [(.ref t), (.int (1 : Int32)), (.ref t)]) (fun t' k => XS.aloadN X3.here hx rfl (hb hby own_dW_28) rfl rfl  k) ?_
  refine X3.getF hx hZ hown (hw _ (List.mem_of_getElem? (i := 13) rfl)) e3 F_weights (hb hby own_dW_29) ?_
  intro T4 X4 e4
  refine own_go (mkF m 33 #[rv t, iv (1 : Int32)] [(.int (1 : Int32)), (.ref w), (.int (1 : Int32)), (.ref t)]) (fun t' k => XS.iloadN X4.here hx rfl (hb hby own_dW_32) rfl  k) ?_
  refine X4.ldJo hx hZ e4 A_w 1 (by decide) (by decide) (hb hby own_dW_33) ?_
  rintro _ ⟨y5, rfl⟩
  refine own_go (mkF m 35 #[rv t, iv (1 : Int32)] [(.long (-y5)), (.int (1 : Int32)), (.ref t)]) (fun t' k => XS.lneg X4.here hx rfl (hb hby own_dW_34) rfl k) ?_
  refine own_go (mkF m 36 #[rv t, iv (1 : Int32)] [(.int (-1 : Int32)), (.long (-y5)), (.int (1 : Int32)), (.ref t)]) (fun t' k => XS.iconst X4.here hx rfl (hb hby own_dW_35) k) ?_
  refine own_go (mkF m 37 #[rv t, iv (1 : Int32)] [(.long (0 : Int64)), (.int (-1 : Int32)), (.long (-y5)), (.int (1 : Int32)), (.ref t)]) (fun t' k => XS.lconst X4.here hx rfl (hb hby own_dW_36) k) ?_
  refine X4.callR hx hZ (y := (⟨"com/example/load_across_peers/loadacrosspeers/internal/pick/WeightTree", "add", "(IJIJ)V"⟩ : MethodName)) hown (hw _ (List.mem_of_getElem? (i := 55) rfl)) (hw _ (List.mem_of_getElem? (i := 2) rfl)) (hw _ (List.mem_of_getElem? (i := 57) rfl)) (hw _ (List.mem_of_getElem? (i := 56) rfl)) (hw _ (List.mem_of_getElem? (i := 3) rfl)) (hw _ (List.mem_of_getElem? (i := 58) rfl)) (by decide) e4 E_t [(.int (1 : Int32)), (.long (-y5)), (.int (-1 : Int32)), (.long (0 : Int64))] [] (own_rmA1 l Z a0 hw [] h3 n0 t w bp bs bc k0 k1 k2 k3 k4 k5 k6 ⟨⟨hn, g_t, g_bp, g_bs, g_bc⟩, ⟨ne_t_w, ne_t_bp, ne_t_bs, ne_t_bc, ne_w_bp, ne_w_bs, ne_w_bc, ne_bp_bs, ne_bp_bc, ne_bs_bc⟩, ⟨E_t, A_w, A_bp, A_bs, A_bc⟩, ⟨F_weights, F_present, F_sums, F_counts, F_top, F_rising⟩, _, _, _, F_total, F_taking, F_rc⟩ (-y5)) 0 (by decide) (by decide) (Nat.le_of_eq rfl) (by decide) (by decide) (by rw [hml]; rfl) (lenOf own_pd2 rfl) rfl (hb hby own_dW_37) ?_
  rintro T6 _ X6 ⟨rfl, HT2⟩
  show own_G p e below s _ _ _ T6 (mkF m 40 #[rv t, iv (1 : Int32)] [])
  refine X6.retV hx hlk hret (hb hby own_dW_40) ?_ (by decide) (by decide)
  exact ⟨rfl, HT2⟩

theorem own_pn_own_rmW2 : plainFor (⟨"com/example/load_across_peers/loadacrosspeers/internal/pick/WeightTree", "withdraw", "(I)V"⟩ : MethodName) = true := plainFor_of_name (show plainName "com/example/load_across_peers/loadacrosspeers/internal/pick/WeightTree" = true by first | (simp [plainName, overriddenIn]; done) | decide +kernel)
set_option maxRecDepth 65536 in
set_option maxHeartbeats 40000000 in
theorem own_rmW2 (l : Launch) (Z : State) (a0 : Array Value) (hw : ∀ d ∈ tables_1, d.before a0 Z = true) (ws : List Jvm.Cond) (h0 : Heap) (n0 : Nat) (t w bp bs bc : Addr) (k0 k1 k2 k3 k4 k5 k6 : Int32) (HT : own_T Z h0 n0 t w bp bs bc [(.int k0), (.int k1), (.int k2), (.int k3), (.int k4), (.int k5), (.int k6)])  :
    own_C l Z (⟨"com/example/load_across_peers/loadacrosspeers/internal/pick/WeightTree", "withdraw", "(I)V"⟩ : MethodName) prog_32_method_8_code 2 none ws ({ frames := 1, cells := 0, slots := 0, locals := 19 } : Room) #[(.ref t), (.int (2 : Int32))] h0 (own_Q n0 (fun v h => v = none ∧ own_T Z h n0 t w bp bs bc [(.int k0), (.int k1), (.int k2), (.int (k3 + (-1 : Int32))), (.int (k4 + (-1 : Int32))), (.int k5), (.int k6)])) := by
  refine own_met own_pn_own_rmW2 #[rv t, iv (2 : Int32)] (fun m => by first | (simp [entryFrame, mkF, argsToLocals, Value.category]; done) | rfl) ?_
  intro p e s m below meth c s₁ hx hby hml hown hret hlk hZ hnm X0 e0
  replace X0 := own_S.of X0 (n0)
  have HT0 := HT
  obtain ⟨⟨hn, g_t, g_bp, g_bs, g_bc⟩, ⟨ne_t_w, ne_t_bp, ne_t_bs, ne_t_bc, ne_w_bp, ne_w_bs, ne_w_bc, ne_bp_bs, ne_bp_bc, ne_bs_bc⟩, ⟨E_t, A_w, A_bp, A_bs, A_bc⟩, ⟨F_weights, F_present, F_sums, F_counts, F_top, F_rising⟩, u1, u2, u3, F_total, F_taking, F_rc⟩ := HT0
  refine own_go (mkF m 1 #[rv t, iv (2 : Int32)] [(.ref t)]) (fun t' k => XS.aloadN X0.here hx rfl (hb hby own_dW_0) rfl rfl  k) ?_
  refine own_go (mkF m 2 #[rv t, iv (2 : Int32)] [(.int (2 : Int32)), (.ref t)]) (fun t' k => XS.iloadN X0.here hx rfl (hb hby own_dW_1) rfl  k) ?_
  refine X0.callR hx hZ (y := (⟨"com/example/load_across_peers/loadacrosspeers/internal/pick/WeightTree", "rises", "(I)Z"⟩ : MethodName)) hown (hw _ (List.mem_of_getElem? (i := 49) rfl)) (hw _ (List.mem_of_getElem? (i := 2) rfl)) (hw _ (List.mem_of_getElem? (i := 51) rfl)) (hw _ (List.mem_of_getElem? (i := 50) rfl)) (hw _ (List.mem_of_getElem? (i := 3) rfl)) (hw _ (List.mem_of_getElem? (i := 52) rfl)) (by decide) e0 E_t [(.int (2 : Int32))] [] (own_rmR l Z a0 hw [] h0 n0 t w bp bs bc k0 k1 k2 k3 k4 k5 k6 HT (2 : Int32)) 0 (by decide) (by decide) (Nat.le_of_eq rfl) (by decide) (by decide) (by rw [hml]; rfl) (lenOf own_pd1 rfl) rfl (hb hby own_dW_2) ?_
  rintro T1 _ X1 ⟨rfl, e1⟩
  show own_G p e below s _ _ _ T1 (mkF m 5 #[rv t, iv (2 : Int32)] [(.int (0 : Int32))])
  refine own_go (mkF m 19 #[rv t, iv (2 : Int32)] []) (fun t' k => XS.ifYes X1.here hx rfl (pc0 := 5) (pc' := 19) rfl (hb hby own_dW_5) rfl ((if0 _ _).trans (teq (by decide)).1) (by decide) (by decide) k) ?_
  refine own_go (mkF m 20 #[rv t, iv (2 : Int32)] [(.ref t)]) (fun t' k => XS.aloadN X1.here hx rfl (hb hby own_dW_19) rfl rfl  k) ?_
  refine X1.getF hx hZ hown (hw _ (List.mem_of_getElem? (i := 16) rfl)) e1 F_present (hb hby own_dW_20) ?_
  intro T2 X2 e2
  refine own_go (mkF m 24 #[rv t, iv (2 : Int32)] [(.int (2 : Int32)), (.ref bp)]) (fun t' k => XS.iloadN X2.here hx rfl (hb hby own_dW_23) rfl  k) ?_
  refine own_go (mkF m 25 #[rv t, iv (2 : Int32)] [(.int (0 : Int32)), (.int (2 : Int32)), (.ref bp)]) (fun t' k => XS.iconst X2.here hx rfl (hb hby own_dW_24) k) ?_
  refine X2.stZo hx hZ e2 A_bp g_bp 2 (by decide) (by decide) ⟨_, rfl⟩ (hb hby own_dW_25) ?_
  intro T3 h3 X3 e3 W3 A3
  replace A_bp := A3
  replace E_t := E_t.wr W3
  replace A_w := A_w.other W3 ne_w_bp
  replace A_bs := A_bs.other W3 (Ne.symm ne_bp_bs)
  replace A_bc := A_bc.other W3 (Ne.symm ne_bp_bc)
  replace F_weights := F_weights.other W3 (Or.inl ne_t_bp)
  replace F_present := F_present.other W3 (Or.inl ne_t_bp)
  replace F_sums := F_sums.other W3 (Or.inl ne_t_bp)
  replace F_counts := F_counts.other W3 (Or.inl ne_t_bp)
  replace F_top := F_top.other W3 (Or.inl ne_t_bp)
  replace F_rising := F_rising.other W3 (Or.inl ne_t_bp)
  replace F_total := F_total.other W3 (Or.inl ne_t_bp)
  replace F_taking := F_taking.other W3 (Or.inl ne_t_bp)
  replace F_rc := F_rc.other W3 (Or.inl ne_t_bp)
  replace hn := Nat.le_trans hn (Keep.of_wr W3).1
  clear W3 X2 e2
  refine own_go (mkF m 27 #[rv t, iv (2 : Int32)] [(.ref t)]) (fun t' k => XS.aloadN X3.here hx rfl (hb hby own_dW_26) rfl rfl  k) ?_
  refine own_go (mkF m 28 #[rv t, iv (2 : Int32)] [(.int (2 : Int32)), (.ref t)]) (fun t' k => XS.iloadN X3.here hx rfl (hb hby own_dW_27) rfl  k) ?_
  refine own_go (mkF m 29 #[rv t, iv (2 : Int32)] [(.ref t), (.int (2 : Int32)), (.ref t)]) (fun t' k => XS.aloadN X3.here hx rfl (hb hby own_dW_28) rfl rfl  k) ?_
  refine X3.getF hx hZ hown (hw _ (List.mem_of_getElem? (i := 13) rfl)) e3 F_weights (hb hby own_dW_29) ?_
  intro T4 X4 e4
  refine own_go (mkF m 33 #[rv t, iv (2 : Int32)] [(.int (2 : Int32)), (.ref w), (.int (2 : Int32)), (.ref t)]) (fun t' k => XS.iloadN X4.here hx rfl (hb hby own_dW_32) rfl  k) ?_
  refine X4.ldJo hx hZ e4 A_w 2 (by decide) (by decide) (hb hby own_dW_33) ?_
  rintro _ ⟨y5, rfl⟩
  refine own_go (mkF m 35 #[rv t, iv (2 : Int32)] [(.long (-y5)), (.int (2 : Int32)), (.ref t)]) (fun t' k => XS.lneg X4.here hx rfl (hb hby own_dW_34) rfl k) ?_
  refine own_go (mkF m 36 #[rv t, iv (2 : Int32)] [(.int (-1 : Int32)), (.long (-y5)), (.int (2 : Int32)), (.ref t)]) (fun t' k => XS.iconst X4.here hx rfl (hb hby own_dW_35) k) ?_
  refine own_go (mkF m 37 #[rv t, iv (2 : Int32)] [(.long (0 : Int64)), (.int (-1 : Int32)), (.long (-y5)), (.int (2 : Int32)), (.ref t)]) (fun t' k => XS.lconst X4.here hx rfl (hb hby own_dW_36) k) ?_
  refine X4.callR hx hZ (y := (⟨"com/example/load_across_peers/loadacrosspeers/internal/pick/WeightTree", "add", "(IJIJ)V"⟩ : MethodName)) hown (hw _ (List.mem_of_getElem? (i := 55) rfl)) (hw _ (List.mem_of_getElem? (i := 2) rfl)) (hw _ (List.mem_of_getElem? (i := 57) rfl)) (hw _ (List.mem_of_getElem? (i := 56) rfl)) (hw _ (List.mem_of_getElem? (i := 3) rfl)) (hw _ (List.mem_of_getElem? (i := 58) rfl)) (by decide) e4 E_t [(.int (2 : Int32)), (.long (-y5)), (.int (-1 : Int32)), (.long (0 : Int64))] [] (own_rmA2 l Z a0 hw [] h3 n0 t w bp bs bc k0 k1 k2 k3 k4 k5 k6 ⟨⟨hn, g_t, g_bp, g_bs, g_bc⟩, ⟨ne_t_w, ne_t_bp, ne_t_bs, ne_t_bc, ne_w_bp, ne_w_bs, ne_w_bc, ne_bp_bs, ne_bp_bc, ne_bs_bc⟩, ⟨E_t, A_w, A_bp, A_bs, A_bc⟩, ⟨F_weights, F_present, F_sums, F_counts, F_top, F_rising⟩, _, _, _, F_total, F_taking, F_rc⟩ (-y5)) 0 (by decide) (by decide) (Nat.le_of_eq rfl) (by decide) (by decide) (by rw [hml]; rfl) (lenOf own_pd2 rfl) rfl (hb hby own_dW_37) ?_
  rintro T6 _ X6 ⟨rfl, HT2⟩
  show own_G p e below s _ _ _ T6 (mkF m 40 #[rv t, iv (2 : Int32)] [])
  refine X6.retV hx hlk hret (hb hby own_dW_40) ?_ (by decide) (by decide)
  exact ⟨rfl, HT2⟩

theorem own_pn_own_rmW3 : plainFor (⟨"com/example/load_across_peers/loadacrosspeers/internal/pick/WeightTree", "withdraw", "(I)V"⟩ : MethodName) = true := plainFor_of_name (show plainName "com/example/load_across_peers/loadacrosspeers/internal/pick/WeightTree" = true by first | (simp [plainName, overriddenIn]; done) | decide +kernel)
set_option maxRecDepth 65536 in
set_option maxHeartbeats 40000000 in
theorem own_rmW3 (l : Launch) (Z : State) (a0 : Array Value) (hw : ∀ d ∈ tables_1, d.before a0 Z = true) (ws : List Jvm.Cond) (h0 : Heap) (n0 : Nat) (t w bp bs bc : Addr) (k0 k1 k2 k3 k4 k5 k6 : Int32) (HT : own_T Z h0 n0 t w bp bs bc [(.int k0), (.int k1), (.int k2), (.int k3), (.int k4), (.int k5), (.int k6)])  :
    own_C l Z (⟨"com/example/load_across_peers/loadacrosspeers/internal/pick/WeightTree", "withdraw", "(I)V"⟩ : MethodName) prog_32_method_8_code 2 none ws ({ frames := 1, cells := 0, slots := 0, locals := 19 } : Room) #[(.ref t), (.int (3 : Int32))] h0 (own_Q n0 (fun v h => v = none ∧ own_T Z h n0 t w bp bs bc [(.int k0), (.int k1), (.int k2), (.int k3), (.int (k4 + (-1 : Int32))), (.int k5), (.int k6)])) := by
  refine own_met own_pn_own_rmW3 #[rv t, iv (3 : Int32)] (fun m => by first | (simp [entryFrame, mkF, argsToLocals, Value.category]; done) | rfl) ?_
  intro p e s m below meth c s₁ hx hby hml hown hret hlk hZ hnm X0 e0
  replace X0 := own_S.of X0 (n0)
  have HT0 := HT
  obtain ⟨⟨hn, g_t, g_bp, g_bs, g_bc⟩, ⟨ne_t_w, ne_t_bp, ne_t_bs, ne_t_bc, ne_w_bp, ne_w_bs, ne_w_bc, ne_bp_bs, ne_bp_bc, ne_bs_bc⟩, ⟨E_t, A_w, A_bp, A_bs, A_bc⟩, ⟨F_weights, F_present, F_sums, F_counts, F_top, F_rising⟩, u1, u2, u3, F_total, F_taking, F_rc⟩ := HT0
  refine own_go (mkF m 1 #[rv t, iv (3 : Int32)] [(.ref t)]) (fun t' k => XS.aloadN X0.here hx rfl (hb hby own_dW_0) rfl rfl  k) ?_
  refine own_go (mkF m 2 #[rv t, iv (3 : Int32)] [(.int (3 : Int32)), (.ref t)]) (fun t' k => XS.iloadN X0.here hx rfl (hb hby own_dW_1) rfl  k) ?_
  refine X0.callR hx hZ (y := (⟨"com/example/load_across_peers/loadacrosspeers/internal/pick/WeightTree", "rises", "(I)Z"⟩ : MethodName)) hown (hw _ (List.mem_of_getElem? (i := 49) rfl)) (hw _ (List.mem_of_getElem? (i := 2) rfl)) (hw _ (List.mem_of_getElem? (i := 51) rfl)) (hw _ (List.mem_of_getElem? (i := 50) rfl)) (hw _ (List.mem_of_getElem? (i := 3) rfl)) (hw _ (List.mem_of_getElem? (i := 52) rfl)) (by decide) e0 E_t [(.int (3 : Int32))] [] (own_rmR l Z a0 hw [] h0 n0 t w bp bs bc k0 k1 k2 k3 k4 k5 k6 HT (3 : Int32)) 0 (by decide) (by decide) (Nat.le_of_eq rfl) (by decide) (by decide) (by rw [hml]; rfl) (lenOf own_pd1 rfl) rfl (hb hby own_dW_2) ?_
  rintro T1 _ X1 ⟨rfl, e1⟩
  show own_G p e below s _ _ _ T1 (mkF m 5 #[rv t, iv (3 : Int32)] [(.int (0 : Int32))])
  refine own_go (mkF m 19 #[rv t, iv (3 : Int32)] []) (fun t' k => XS.ifYes X1.here hx rfl (pc0 := 5) (pc' := 19) rfl (hb hby own_dW_5) rfl ((if0 _ _).trans (teq (by decide)).1) (by decide) (by decide) k) ?_
  refine own_go (mkF m 20 #[rv t, iv (3 : Int32)] [(.ref t)]) (fun t' k => XS.aloadN X1.here hx rfl (hb hby own_dW_19) rfl rfl  k) ?_
  refine X1.getF hx hZ hown (hw _ (List.mem_of_getElem? (i := 16) rfl)) e1 F_present (hb hby own_dW_20) ?_
  intro T2 X2 e2
  refine own_go (mkF m 24 #[rv t, iv (3 : Int32)] [(.int (3 : Int32)), (.ref bp)]) (fun t' k => XS.iloadN X2.here hx rfl (hb hby own_dW_23) rfl  k) ?_
  refine own_go (mkF m 25 #[rv t, iv (3 : Int32)] [(.int (0 : Int32)), (.int (3 : Int32)), (.ref bp)]) (fun t' k => XS.iconst X2.here hx rfl (hb hby own_dW_24) k) ?_
  refine X2.stZo hx hZ e2 A_bp g_bp 3 (by decide) (by decide) ⟨_, rfl⟩ (hb hby own_dW_25) ?_
  intro T3 h3 X3 e3 W3 A3
  replace A_bp := A3
  replace E_t := E_t.wr W3
  replace A_w := A_w.other W3 ne_w_bp
  replace A_bs := A_bs.other W3 (Ne.symm ne_bp_bs)
  replace A_bc := A_bc.other W3 (Ne.symm ne_bp_bc)
  replace F_weights := F_weights.other W3 (Or.inl ne_t_bp)
  replace F_present := F_present.other W3 (Or.inl ne_t_bp)
  replace F_sums := F_sums.other W3 (Or.inl ne_t_bp)
  replace F_counts := F_counts.other W3 (Or.inl ne_t_bp)
  replace F_top := F_top.other W3 (Or.inl ne_t_bp)
  replace F_rising := F_rising.other W3 (Or.inl ne_t_bp)
  replace F_total := F_total.other W3 (Or.inl ne_t_bp)
  replace F_taking := F_taking.other W3 (Or.inl ne_t_bp)
  replace F_rc := F_rc.other W3 (Or.inl ne_t_bp)
  replace hn := Nat.le_trans hn (Keep.of_wr W3).1
  clear W3 X2 e2
  refine own_go (mkF m 27 #[rv t, iv (3 : Int32)] [(.ref t)]) (fun t' k => XS.aloadN X3.here hx rfl (hb hby own_dW_26) rfl rfl  k) ?_
  refine own_go (mkF m 28 #[rv t, iv (3 : Int32)] [(.int (3 : Int32)), (.ref t)]) (fun t' k => XS.iloadN X3.here hx rfl (hb hby own_dW_27) rfl  k) ?_
  refine own_go (mkF m 29 #[rv t, iv (3 : Int32)] [(.ref t), (.int (3 : Int32)), (.ref t)]) (fun t' k => XS.aloadN X3.here hx rfl (hb hby own_dW_28) rfl rfl  k) ?_
  refine X3.getF hx hZ hown (hw _ (List.mem_of_getElem? (i := 13) rfl)) e3 F_weights (hb hby own_dW_29) ?_
  intro T4 X4 e4
  refine own_go (mkF m 33 #[rv t, iv (3 : Int32)] [(.int (3 : Int32)), (.ref w), (.int (3 : Int32)), (.ref t)]) (fun t' k => XS.iloadN X4.here hx rfl (hb hby own_dW_32) rfl  k) ?_
  refine X4.ldJo hx hZ e4 A_w 3 (by decide) (by decide) (hb hby own_dW_33) ?_
  rintro _ ⟨y5, rfl⟩
  refine own_go (mkF m 35 #[rv t, iv (3 : Int32)] [(.long (-y5)), (.int (3 : Int32)), (.ref t)]) (fun t' k => XS.lneg X4.here hx rfl (hb hby own_dW_34) rfl k) ?_
  refine own_go (mkF m 36 #[rv t, iv (3 : Int32)] [(.int (-1 : Int32)), (.long (-y5)), (.int (3 : Int32)), (.ref t)]) (fun t' k => XS.iconst X4.here hx rfl (hb hby own_dW_35) k) ?_
  refine own_go (mkF m 37 #[rv t, iv (3 : Int32)] [(.long (0 : Int64)), (.int (-1 : Int32)), (.long (-y5)), (.int (3 : Int32)), (.ref t)]) (fun t' k => XS.lconst X4.here hx rfl (hb hby own_dW_36) k) ?_
  refine X4.callR hx hZ (y := (⟨"com/example/load_across_peers/loadacrosspeers/internal/pick/WeightTree", "add", "(IJIJ)V"⟩ : MethodName)) hown (hw _ (List.mem_of_getElem? (i := 55) rfl)) (hw _ (List.mem_of_getElem? (i := 2) rfl)) (hw _ (List.mem_of_getElem? (i := 57) rfl)) (hw _ (List.mem_of_getElem? (i := 56) rfl)) (hw _ (List.mem_of_getElem? (i := 3) rfl)) (hw _ (List.mem_of_getElem? (i := 58) rfl)) (by decide) e4 E_t [(.int (3 : Int32)), (.long (-y5)), (.int (-1 : Int32)), (.long (0 : Int64))] [] (own_rmA3 l Z a0 hw [] h3 n0 t w bp bs bc k0 k1 k2 k3 k4 k5 k6 ⟨⟨hn, g_t, g_bp, g_bs, g_bc⟩, ⟨ne_t_w, ne_t_bp, ne_t_bs, ne_t_bc, ne_w_bp, ne_w_bs, ne_w_bc, ne_bp_bs, ne_bp_bc, ne_bs_bc⟩, ⟨E_t, A_w, A_bp, A_bs, A_bc⟩, ⟨F_weights, F_present, F_sums, F_counts, F_top, F_rising⟩, _, _, _, F_total, F_taking, F_rc⟩ (-y5)) 0 (by decide) (by decide) (Nat.le_of_eq rfl) (by decide) (by decide) (by rw [hml]; rfl) (lenOf own_pd2 rfl) rfl (hb hby own_dW_37) ?_
  rintro T6 _ X6 ⟨rfl, HT2⟩
  show own_G p e below s _ _ _ T6 (mkF m 40 #[rv t, iv (3 : Int32)] [])
  refine X6.retV hx hlk hret (hb hby own_dW_40) ?_ (by decide) (by decide)
  exact ⟨rfl, HT2⟩

theorem own_pn_own_rmW4 : plainFor (⟨"com/example/load_across_peers/loadacrosspeers/internal/pick/WeightTree", "withdraw", "(I)V"⟩ : MethodName) = true := plainFor_of_name (show plainName "com/example/load_across_peers/loadacrosspeers/internal/pick/WeightTree" = true by first | (simp [plainName, overriddenIn]; done) | decide +kernel)
set_option maxRecDepth 65536 in
set_option maxHeartbeats 40000000 in
theorem own_rmW4 (l : Launch) (Z : State) (a0 : Array Value) (hw : ∀ d ∈ tables_1, d.before a0 Z = true) (ws : List Jvm.Cond) (h0 : Heap) (n0 : Nat) (t w bp bs bc : Addr) (k0 k1 k2 k3 k4 k5 k6 : Int32) (HT : own_T Z h0 n0 t w bp bs bc [(.int k0), (.int k1), (.int k2), (.int k3), (.int k4), (.int k5), (.int k6)])  :
    own_C l Z (⟨"com/example/load_across_peers/loadacrosspeers/internal/pick/WeightTree", "withdraw", "(I)V"⟩ : MethodName) prog_32_method_8_code 2 none ws ({ frames := 1, cells := 0, slots := 0, locals := 19 } : Room) #[(.ref t), (.int (4 : Int32))] h0 (own_Q n0 (fun v h => v = none ∧ own_T Z h n0 t w bp bs bc [(.int k0), (.int k1), (.int k2), (.int k3), (.int k4), (.int (k5 + (-1 : Int32))), (.int (k6 + (-1 : Int32)))])) := by
  refine own_met own_pn_own_rmW4 #[rv t, iv (4 : Int32)] (fun m => by first | (simp [entryFrame, mkF, argsToLocals, Value.category]; done) | rfl) ?_
  intro p e s m below meth c s₁ hx hby hml hown hret hlk hZ hnm X0 e0
  replace X0 := own_S.of X0 (n0)
  have HT0 := HT
  obtain ⟨⟨hn, g_t, g_bp, g_bs, g_bc⟩, ⟨ne_t_w, ne_t_bp, ne_t_bs, ne_t_bc, ne_w_bp, ne_w_bs, ne_w_bc, ne_bp_bs, ne_bp_bc, ne_bs_bc⟩, ⟨E_t, A_w, A_bp, A_bs, A_bc⟩, ⟨F_weights, F_present, F_sums, F_counts, F_top, F_rising⟩, u1, u2, u3, F_total, F_taking, F_rc⟩ := HT0
  refine own_go (mkF m 1 #[rv t, iv (4 : Int32)] [(.ref t)]) (fun t' k => XS.aloadN X0.here hx rfl (hb hby own_dW_0) rfl rfl  k) ?_
  refine own_go (mkF m 2 #[rv t, iv (4 : Int32)] [(.int (4 : Int32)), (.ref t)]) (fun t' k => XS.iloadN X0.here hx rfl (hb hby own_dW_1) rfl  k) ?_
  refine X0.callR hx hZ (y := (⟨"com/example/load_across_peers/loadacrosspeers/internal/pick/WeightTree", "rises", "(I)Z"⟩ : MethodName)) hown (hw _ (List.mem_of_getElem? (i := 49) rfl)) (hw _ (List.mem_of_getElem? (i := 2) rfl)) (hw _ (List.mem_of_getElem? (i := 51) rfl)) (hw _ (List.mem_of_getElem? (i := 50) rfl)) (hw _ (List.mem_of_getElem? (i := 3) rfl)) (hw _ (List.mem_of_getElem? (i := 52) rfl)) (by decide) e0 E_t [(.int (4 : Int32))] [] (own_rmR l Z a0 hw [] h0 n0 t w bp bs bc k0 k1 k2 k3 k4 k5 k6 HT (4 : Int32)) 0 (by decide) (by decide) (Nat.le_of_eq rfl) (by decide) (by decide) (by rw [hml]; rfl) (lenOf own_pd1 rfl) rfl (hb hby own_dW_2) ?_
  rintro T1 _ X1 ⟨rfl, e1⟩
  show own_G p e below s _ _ _ T1 (mkF m 5 #[rv t, iv (4 : Int32)] [(.int (0 : Int32))])
  refine own_go (mkF m 19 #[rv t, iv (4 : Int32)] []) (fun t' k => XS.ifYes X1.here hx rfl (pc0 := 5) (pc' := 19) rfl (hb hby own_dW_5) rfl ((if0 _ _).trans (teq (by decide)).1) (by decide) (by decide) k) ?_
  refine own_go (mkF m 20 #[rv t, iv (4 : Int32)] [(.ref t)]) (fun t' k => XS.aloadN X1.here hx rfl (hb hby own_dW_19) rfl rfl  k) ?_
  refine X1.getF hx hZ hown (hw _ (List.mem_of_getElem? (i := 16) rfl)) e1 F_present (hb hby own_dW_20) ?_
  intro T2 X2 e2
  refine own_go (mkF m 24 #[rv t, iv (4 : Int32)] [(.int (4 : Int32)), (.ref bp)]) (fun t' k => XS.iloadN X2.here hx rfl (hb hby own_dW_23) rfl  k) ?_
  refine own_go (mkF m 25 #[rv t, iv (4 : Int32)] [(.int (0 : Int32)), (.int (4 : Int32)), (.ref bp)]) (fun t' k => XS.iconst X2.here hx rfl (hb hby own_dW_24) k) ?_
  refine X2.stZo hx hZ e2 A_bp g_bp 4 (by decide) (by decide) ⟨_, rfl⟩ (hb hby own_dW_25) ?_
  intro T3 h3 X3 e3 W3 A3
  replace A_bp := A3
  replace E_t := E_t.wr W3
  replace A_w := A_w.other W3 ne_w_bp
  replace A_bs := A_bs.other W3 (Ne.symm ne_bp_bs)
  replace A_bc := A_bc.other W3 (Ne.symm ne_bp_bc)
  replace F_weights := F_weights.other W3 (Or.inl ne_t_bp)
  replace F_present := F_present.other W3 (Or.inl ne_t_bp)
  replace F_sums := F_sums.other W3 (Or.inl ne_t_bp)
  replace F_counts := F_counts.other W3 (Or.inl ne_t_bp)
  replace F_top := F_top.other W3 (Or.inl ne_t_bp)
  replace F_rising := F_rising.other W3 (Or.inl ne_t_bp)
  replace F_total := F_total.other W3 (Or.inl ne_t_bp)
  replace F_taking := F_taking.other W3 (Or.inl ne_t_bp)
  replace F_rc := F_rc.other W3 (Or.inl ne_t_bp)
  replace hn := Nat.le_trans hn (Keep.of_wr W3).1
  clear W3 X2 e2
  refine own_go (mkF m 27 #[rv t, iv (4 : Int32)] [(.ref t)]) (fun t' k => XS.aloadN X3.here hx rfl (hb hby own_dW_26) rfl rfl  k) ?_
  refine own_go (mkF m 28 #[rv t, iv (4 : Int32)] [(.int (4 : Int32)), (.ref t)]) (fun t' k => XS.iloadN X3.here hx rfl (hb hby own_dW_27) rfl  k) ?_
  refine own_go (mkF m 29 #[rv t, iv (4 : Int32)] [(.ref t), (.int (4 : Int32)), (.ref t)]) (fun t' k => XS.aloadN X3.here hx rfl (hb hby own_dW_28) rfl rfl  k) ?_
  refine X3.getF hx hZ hown (hw _ (List.mem_of_getElem? (i := 13) rfl)) e3 F_weights (hb hby own_dW_29) ?_
  intro T4 X4 e4
  refine own_go (mkF m 33 #[rv t, iv (4 : Int32)] [(.int (4 : Int32)), (.ref w), (.int (4 : Int32)), (.ref t)]) (fun t' k => XS.iloadN X4.here hx rfl (hb hby own_dW_32) rfl  k) ?_
  refine X4.ldJo hx hZ e4 A_w 4 (by decide) (by decide) (hb hby own_dW_33) ?_
  rintro _ ⟨y5, rfl⟩
  refine own_go (mkF m 35 #[rv t, iv (4 : Int32)] [(.long (-y5)), (.int (4 : Int32)), (.ref t)]) (fun t' k => XS.lneg X4.here hx rfl (hb hby own_dW_34) rfl k) ?_
  refine own_go (mkF m 36 #[rv t, iv (4 : Int32)] [(.int (-1 : Int32)), (.long (-y5)), (.int (4 : Int32)), (.ref t)]) (fun t' k => XS.iconst X4.here hx rfl (hb hby own_dW_35) k) ?_
  refine own_go (mkF m 37 #[rv t, iv (4 : Int32)] [(.long (0 : Int64)), (.int (-1 : Int32)), (.long (-y5)), (.int (4 : Int32)), (.ref t)]) (fun t' k => XS.lconst X4.here hx rfl (hb hby own_dW_36) k) ?_
  refine X4.callR hx hZ (y := (⟨"com/example/load_across_peers/loadacrosspeers/internal/pick/WeightTree", "add", "(IJIJ)V"⟩ : MethodName)) hown (hw _ (List.mem_of_getElem? (i := 55) rfl)) (hw _ (List.mem_of_getElem? (i := 2) rfl)) (hw _ (List.mem_of_getElem? (i := 57) rfl)) (hw _ (List.mem_of_getElem? (i := 56) rfl)) (hw _ (List.mem_of_getElem? (i := 3) rfl)) (hw _ (List.mem_of_getElem? (i := 58) rfl)) (by decide) e4 E_t [(.int (4 : Int32)), (.long (-y5)), (.int (-1 : Int32)), (.long (0 : Int64))] [] (own_rmA4 l Z a0 hw [] h3 n0 t w bp bs bc k0 k1 k2 k3 k4 k5 k6 ⟨⟨hn, g_t, g_bp, g_bs, g_bc⟩, ⟨ne_t_w, ne_t_bp, ne_t_bs, ne_t_bc, ne_w_bp, ne_w_bs, ne_w_bc, ne_bp_bs, ne_bp_bc, ne_bs_bc⟩, ⟨E_t, A_w, A_bp, A_bs, A_bc⟩, ⟨F_weights, F_present, F_sums, F_counts, F_top, F_rising⟩, _, _, _, F_total, F_taking, F_rc⟩ (-y5)) 0 (by decide) (by decide) (Nat.le_of_eq rfl) (by decide) (by decide) (by rw [hml]; rfl) (lenOf own_pd2 rfl) rfl (hb hby own_dW_37) ?_
  rintro T6 _ X6 ⟨rfl, HT2⟩
  show own_G p e below s _ _ _ T6 (mkF m 40 #[rv t, iv (4 : Int32)] [])
  refine X6.retV hx hlk hret (hb hby own_dW_40) ?_ (by decide) (by decide)
  exact ⟨rfl, HT2⟩

theorem own_pn_own_rmW5 : plainFor (⟨"com/example/load_across_peers/loadacrosspeers/internal/pick/WeightTree", "withdraw", "(I)V"⟩ : MethodName) = true := plainFor_of_name (show plainName "com/example/load_across_peers/loadacrosspeers/internal/pick/WeightTree" = true by first | (simp [plainName, overriddenIn]; done) | decide +kernel)
set_option maxRecDepth 65536 in
set_option maxHeartbeats 40000000 in
theorem own_rmW5 (l : Launch) (Z : State) (a0 : Array Value) (hw : ∀ d ∈ tables_1, d.before a0 Z = true) (ws : List Jvm.Cond) (h0 : Heap) (n0 : Nat) (t w bp bs bc : Addr) (k0 k1 k2 k3 k4 k5 k6 : Int32) (HT : own_T Z h0 n0 t w bp bs bc [(.int k0), (.int k1), (.int k2), (.int k3), (.int k4), (.int k5), (.int k6)])  :
    own_C l Z (⟨"com/example/load_across_peers/loadacrosspeers/internal/pick/WeightTree", "withdraw", "(I)V"⟩ : MethodName) prog_32_method_8_code 2 none ws ({ frames := 1, cells := 0, slots := 0, locals := 19 } : Room) #[(.ref t), (.int (5 : Int32))] h0 (own_Q n0 (fun v h => v = none ∧ own_T Z h n0 t w bp bs bc [(.int k0), (.int k1), (.int k2), (.int k3), (.int k4), (.int k5), (.int (k6 + (-1 : Int32)))])) := by
  refine own_met own_pn_own_rmW5 #[rv t, iv (5 : Int32)] (fun m => by first | (simp [entryFrame, mkF, argsToLocals, Value.category]; done) | rfl) ?_
  intro p e s m below meth c s₁ hx hby hml hown hret hlk hZ hnm X0 e0
  replace X0 := own_S.of X0 (n0)
  have HT0 := HT
  obtain ⟨⟨hn, g_t, g_bp, g_bs, g_bc⟩, ⟨ne_t_w, ne_t_bp, ne_t_bs, ne_t_bc, ne_w_bp, ne_w_bs, ne_w_bc, ne_bp_bs, ne_bp_bc, ne_bs_bc⟩, ⟨E_t, A_w, A_bp, A_bs, A_bc⟩, ⟨F_weights, F_present, F_sums, F_counts, F_top, F_rising⟩, u1, u2, u3, F_total, F_taking, F_rc⟩ := HT0
  refine own_go (mkF m 1 #[rv t, iv (5 : Int32)] [(.ref t)]) (fun t' k => XS.aloadN X0.here hx rfl (hb hby own_dW_0) rfl rfl  k) ?_
  refine own_go (mkF m 2 #[rv t, iv (5 : Int32)] [(.int (5 : Int32)), (.ref t)]) (fun t' k => XS.iloadN X0.here hx rfl (hb hby own_dW_1) rfl  k) ?_
  refine X0.callR hx hZ (y := (⟨"com/example/load_across_peers/loadacrosspeers/internal/pick/WeightTree", "rises", "(I)Z"⟩ : MethodName)) hown (hw _ (List.mem_of_getElem? (i := 49) rfl)) (hw _ (List.mem_of_getElem? (i := 2) rfl)) (hw _ (List.mem_of_getElem? (i := 51) rfl)) (hw _ (List.mem_of_getElem? (i := 50) rfl)) (hw _ (List.mem_of_getElem? (i := 3) rfl)) (hw _ (List.mem_of_getElem? (i := 52) rfl)) (by decide) e0 E_t [(.int (5 : Int32))] [] (own_rmR l Z a0 hw [] h0 n0 t w bp bs bc k0 k1 k2 k3 k4 k5 k6 HT (5 : Int32)) 0 (by decide) (by decide) (Nat.le_of_eq rfl) (by decide) (by decide) (by rw [hml]; rfl) (lenOf own_pd1 rfl) rfl (hb hby own_dW_2) ?_
  rintro T1 _ X1 ⟨rfl, e1⟩
  show own_G p e below s _ _ _ T1 (mkF m 5 #[rv t, iv (5 : Int32)] [(.int (0 : Int32))])
  refine own_go (mkF m 19 #[rv t, iv (5 : Int32)] []) (fun t' k => XS.ifYes X1.here hx rfl (pc0 := 5) (pc' := 19) rfl (hb hby own_dW_5) rfl ((if0 _ _).trans (teq (by decide)).1) (by decide) (by decide) k) ?_
  refine own_go (mkF m 20 #[rv t, iv (5 : Int32)] [(.ref t)]) (fun t' k => XS.aloadN X1.here hx rfl (hb hby own_dW_19) rfl rfl  k) ?_
  refine X1.getF hx hZ hown (hw _ (List.mem_of_getElem? (i := 16) rfl)) e1 F_present (hb hby own_dW_20) ?_
  intro T2 X2 e2
  refine own_go (mkF m 24 #[rv t, iv (5 : Int32)] [(.int (5 : Int32)), (.ref bp)]) (fun t' k => XS.iloadN X2.here hx rfl (hb hby own_dW_23) rfl  k) ?_
  refine own_go (mkF m 25 #[rv t, iv (5 : Int32)] [(.int (0 : Int32)), (.int (5 : Int32)), (.ref bp)]) (fun t' k => XS.iconst X2.here hx rfl (hb hby own_dW_24) k) ?_
  refine X2.stZo hx hZ e2 A_bp g_bp 5 (by decide) (by decide) ⟨_, rfl⟩ (hb hby own_dW_25) ?_
  intro T3 h3 X3 e3 W3 A3
  replace A_bp := A3
  replace E_t := E_t.wr W3
  replace A_w := A_w.other W3 ne_w_bp
  replace A_bs := A_bs.other W3 (Ne.symm ne_bp_bs)
  replace A_bc := A_bc.other W3 (Ne.symm ne_bp_bc)
  replace F_weights := F_weights.other W3 (Or.inl ne_t_bp)
  replace F_present := F_present.other W3 (Or.inl ne_t_bp)
  replace F_sums := F_sums.other W3 (Or.inl ne_t_bp)
  replace F_counts := F_counts.other W3 (Or.inl ne_t_bp)
  replace F_top := F_top.other W3 (Or.inl ne_t_bp)
  replace F_rising := F_rising.other W3 (Or.inl ne_t_bp)
  replace F_total := F_total.other W3 (Or.inl ne_t_bp)
  replace F_taking := F_taking.other W3 (Or.inl ne_t_bp)
  replace F_rc := F_rc.other W3 (Or.inl ne_t_bp)
  replace hn := Nat.le_trans hn (Keep.of_wr W3).1
  clear W3 X2 e2
  refine own_go (mkF m 27 #[rv t, iv (5 : Int32)] [(.ref t)]) (fun t' k => XS.aloadN X3.here hx rfl (hb hby own_dW_26) rfl rfl  k) ?_
  refine own_go (mkF m 28 #[rv t, iv (5 : Int32)] [(.int (5 : Int32)), (.ref t)]) (fun t' k => XS.iloadN X3.here hx rfl (hb hby own_dW_27) rfl  k) ?_
  refine own_go (mkF m 29 #[rv t, iv (5 : Int32)] [(.ref t), (.int (5 : Int32)), (.ref t)]) (fun t' k => XS.aloadN X3.here hx rfl (hb hby own_dW_28) rfl rfl  k) ?_
  refine X3.getF hx hZ hown (hw _ (List.mem_of_getElem? (i := 13) rfl)) e3 F_weights (hb hby own_dW_29) ?_
  intro T4 X4 e4
  refine own_go (mkF m 33 #[rv t, iv (5 : Int32)] [(.int (5 : Int32)), (.ref w), (.int (5 : Int32)), (.ref t)]) (fun t' k => XS.iloadN X4.here hx rfl (hb hby own_dW_32) rfl  k) ?_
  refine X4.ldJo hx hZ e4 A_w 5 (by decide) (by decide) (hb hby own_dW_33) ?_
  rintro _ ⟨y5, rfl⟩
  refine own_go (mkF m 35 #[rv t, iv (5 : Int32)] [(.long (-y5)), (.int (5 : Int32)), (.ref t)]) (fun t' k => XS.lneg X4.here hx rfl (hb hby own_dW_34) rfl k) ?_
  refine own_go (mkF m 36 #[rv t, iv (5 : Int32)] [(.int (-1 : Int32)), (.long (-y5)), (.int (5 : Int32)), (.ref t)]) (fun t' k => XS.iconst X4.here hx rfl (hb hby own_dW_35) k) ?_
  refine own_go (mkF m 37 #[rv t, iv (5 : Int32)] [(.long (0 : Int64)), (.int (-1 : Int32)), (.long (-y5)), (.int (5 : Int32)), (.ref t)]) (fun t' k => XS.lconst X4.here hx rfl (hb hby own_dW_36) k) ?_
  refine X4.callR hx hZ (y := (⟨"com/example/load_across_peers/loadacrosspeers/internal/pick/WeightTree", "add", "(IJIJ)V"⟩ : MethodName)) hown (hw _ (List.mem_of_getElem? (i := 55) rfl)) (hw _ (List.mem_of_getElem? (i := 2) rfl)) (hw _ (List.mem_of_getElem? (i := 57) rfl)) (hw _ (List.mem_of_getElem? (i := 56) rfl)) (hw _ (List.mem_of_getElem? (i := 3) rfl)) (hw _ (List.mem_of_getElem? (i := 58) rfl)) (by decide) e4 E_t [(.int (5 : Int32)), (.long (-y5)), (.int (-1 : Int32)), (.long (0 : Int64))] [] (own_rmA5 l Z a0 hw [] h3 n0 t w bp bs bc k0 k1 k2 k3 k4 k5 k6 ⟨⟨hn, g_t, g_bp, g_bs, g_bc⟩, ⟨ne_t_w, ne_t_bp, ne_t_bs, ne_t_bc, ne_w_bp, ne_w_bs, ne_w_bc, ne_bp_bs, ne_bp_bc, ne_bs_bc⟩, ⟨E_t, A_w, A_bp, A_bs, A_bc⟩, ⟨F_weights, F_present, F_sums, F_counts, F_top, F_rising⟩, _, _, _, F_total, F_taking, F_rc⟩ (-y5)) 0 (by decide) (by decide) (Nat.le_of_eq rfl) (by decide) (by decide) (by rw [hml]; rfl) (lenOf own_pd2 rfl) rfl (hb hby own_dW_37) ?_
  rintro T6 _ X6 ⟨rfl, HT2⟩
  show own_G p e below s _ _ _ T6 (mkF m 40 #[rv t, iv (5 : Int32)] [])
  refine X6.retV hx hlk hret (hb hby own_dW_40) ?_ (by decide) (by decide)
  exact ⟨rfl, HT2⟩

def own_tp (x : Int64) (k0 : Int32) (k1 : Int32) (k2 : Int32) (k3 : Int32) (k4 : Int32) (k5 : Int32) (k6 : Int32) : Int32 := (if x < (k4.toInt64) then (if x < (k2.toInt64) then (if x < (k1.toInt64) then (0 : Int32) else (1 : Int32)) else (if (x - (k2.toInt64)) < (k3.toInt64) then (2 : Int32) else (3 : Int32))) else (if (x - (k4.toInt64)) < (k6.toInt64) then (if (x - (k4.toInt64)) < (k5.toInt64) then (4 : Int32) else (5 : Int32)) else (6 : Int32)))
theorem own_dP_0 : decode prog_32_method_5_code 0 = .ok (.iconst 0, 1) := by decide +kernel
theorem own_dP_1 : decode prog_32_method_5_code 1 = .ok (.istore_n 3, 1) := by decide +kernel
theorem own_dP_2 : decode prog_32_method_5_code 2 = .ok (.lload_n 1, 1) := by decide +kernel
theorem own_dP_3 : decode prog_32_method_5_code 3 = .ok (.lstore 4, 2) := by decide +kernel
theorem own_dP_5 : decode prog_32_method_5_code 5 = .ok (.aload_n 0, 1) := by decide +kernel
theorem own_dP_6 : decode prog_32_method_5_code 6 = .ok (.getfield 39, 3) := by decide +kernel
theorem own_dP_9 : decode prog_32_method_5_code 9 = .ok (.istore 6, 2) := by decide +kernel
theorem own_dP_11 : decode prog_32_method_5_code 11 = .ok (.iload 6, 2) := by decide +kernel
theorem own_dP_13 : decode prog_32_method_5_code 13 = .ok (.ifCond .le 58, 3) := by decide +kernel
theorem own_dP_16 : decode prog_32_method_5_code 16 = .ok (.iload_n 3, 1) := by decide +kernel
theorem own_dP_17 : decode prog_32_method_5_code 17 = .ok (.iload 6, 2) := by decide +kernel
theorem own_dP_19 : decode prog_32_method_5_code 19 = .ok (.iadd, 1) := by decide +kernel
theorem own_dP_20 : decode prog_32_method_5_code 20 = .ok (.istore 7, 2) := by decide +kernel
theorem own_dP_22 : decode prog_32_method_5_code 22 = .ok (.iload 7, 2) := by decide +kernel
theorem own_dP_24 : decode prog_32_method_5_code 24 = .ok (.aload_n 0, 1) := by decide +kernel
theorem own_dP_25 : decode prog_32_method_5_code 25 = .ok (.getfield 29, 3) := by decide +kernel
theorem own_dP_28 : decode prog_32_method_5_code 28 = .ok (.arraylength, 1) := by decide +kernel
theorem own_dP_29 : decode prog_32_method_5_code 29 = .ok (.if_icmp .ge 33, 3) := by decide +kernel
theorem own_dP_32 : decode prog_32_method_5_code 32 = .ok (.aload_n 0, 1) := by decide +kernel
theorem own_dP_33 : decode prog_32_method_5_code 33 = .ok (.getfield 29, 3) := by decide +kernel
theorem own_dP_36 : decode prog_32_method_5_code 36 = .ok (.iload 7, 2) := by decide +kernel
theorem own_dP_38 : decode prog_32_method_5_code 38 = .ok (.iaload, 1) := by decide +kernel
theorem own_dP_39 : decode prog_32_method_5_code 39 = .ok (.i2l, 1) := by decide +kernel
theorem own_dP_40 : decode prog_32_method_5_code 40 = .ok (.lload 4, 2) := by decide +kernel
theorem own_dP_42 : decode prog_32_method_5_code 42 = .ok (.lcmp, 1) := by decide +kernel
theorem own_dP_43 : decode prog_32_method_5_code 43 = .ok (.ifCond .gt 19, 3) := by decide +kernel
theorem own_dP_46 : decode prog_32_method_5_code 46 = .ok (.iload 7, 2) := by decide +kernel
theorem own_dP_48 : decode prog_32_method_5_code 48 = .ok (.istore_n 3, 1) := by decide +kernel
theorem own_dP_49 : decode prog_32_method_5_code 49 = .ok (.lload 4, 2) := by decide +kernel
theorem own_dP_51 : decode prog_32_method_5_code 51 = .ok (.aload_n 0, 1) := by decide +kernel
theorem own_dP_52 : decode prog_32_method_5_code 52 = .ok (.getfield 29, 3) := by decide +kernel
theorem own_dP_55 : decode prog_32_method_5_code 55 = .ok (.iload 7, 2) := by decide +kernel
theorem own_dP_57 : decode prog_32_method_5_code 57 = .ok (.iaload, 1) := by decide +kernel
theorem own_dP_58 : decode prog_32_method_5_code 58 = .ok (.i2l, 1) := by decide +kernel
theorem own_dP_59 : decode prog_32_method_5_code 59 = .ok (.lsub, 1) := by decide +kernel
theorem own_dP_60 : decode prog_32_method_5_code 60 = .ok (.lstore 4, 2) := by decide +kernel
theorem own_dP_62 : decode prog_32_method_5_code 62 = .ok (.iload 6, 2) := by decide +kernel
theorem own_dP_64 : decode prog_32_method_5_code 64 = .ok (.iconst 1, 1) := by decide +kernel
theorem own_dP_65 : decode prog_32_method_5_code 65 = .ok (.iushr, 1) := by decide +kernel
theorem own_dP_66 : decode prog_32_method_5_code 66 = .ok (.istore 6, 2) := by decide +kernel
theorem own_dP_68 : decode prog_32_method_5_code 68 = .ok (.goto (-57), 3) := by decide +kernel
theorem own_dP_71 : decode prog_32_method_5_code 71 = .ok (.iload_n 3, 1) := by decide +kernel
theorem own_dP_72 : decode prog_32_method_5_code 72 = .ok (.ireturn, 1) := by decide +kernel
theorem own_pn_own_rmP : plainFor (⟨"com/example/load_across_peers/loadacrosspeers/internal/pick/WeightTree", "takingPartAt", "(J)I"⟩ : MethodName) = true := plainFor_of_name (show plainName "com/example/load_across_peers/loadacrosspeers/internal/pick/WeightTree" = true by first | (simp [plainName, overriddenIn]; done) | decide +kernel)
set_option maxRecDepth 65536 in
set_option maxHeartbeats 40000000 in
theorem own_rmP (l : Launch) (Z : State) (a0 : Array Value) (hw : ∀ d ∈ tables_1, d.before a0 Z = true) (ws : List Jvm.Cond) (h0 : Heap) (n0 : Nat) (t w bp bs bc : Addr) (k0 k1 k2 k3 k4 k5 k6 : Int32) (HT : own_T Z h0 n0 t w bp bs bc [(.int k0), (.int k1), (.int k2), (.int k3), (.int k4), (.int k5), (.int k6)]) (x : Int64)  :
    own_C l Z (⟨"com/example/load_across_peers/loadacrosspeers/internal/pick/WeightTree", "takingPartAt", "(J)I"⟩ : MethodName) prog_32_method_5_code 8 (some .int) ws ({ frames := 0, cells := 0, slots := 0, locals := 0 } : Room) #[(.ref t), (.long x)] h0 (own_Q n0 (fun v h => v = some (.int (own_tp x k0 k1 k2 k3 k4 k5 k6)) ∧ h = h0)) := by
  refine own_met own_pn_own_rmP #[rv t, jv x, .second, .unset, .unset, .unset, .unset, .unset] (fun m => by first | (simp [entryFrame, mkF, argsToLocals, Value.category]; done) | rfl) ?_
  intro p e s m below meth c s₁ hx hby hml hown hret hlk hZ hnm X0 e0
  replace X0 := own_S.of X0 (n0)
  obtain ⟨⟨hn, g_t, g_bp, g_bs, g_bc⟩, ⟨ne_t_w, ne_t_bp, ne_t_bs, ne_t_bc, ne_w_bp, ne_w_bs, ne_w_bc, ne_bp_bs, ne_bp_bc, ne_bs_bc⟩, ⟨E_t, A_w, A_bp, A_bs, A_bc⟩, ⟨F_weights, F_present, F_sums, F_counts, F_top, F_rising⟩, u1, u2, u3, F_total, F_taking, F_rc⟩ := HT
  refine own_go (mkF m 1 #[rv t, jv x, .second, .unset, .unset, .unset, .unset, .unset] [(.int (0 : Int32))]) (fun t' k => XS.iconst X0.here hx rfl (hb hby own_dP_0) k) ?_
  refine own_go (mkF m 2 #[rv t, jv x, .second, iv (0 : Int32), .unset, .unset, .unset, .unset] []) (fun t' k => XS.istoreN X0.here hx rfl (hb hby own_dP_1) rfl (l' := #[rv t, jv x, .second, iv (0 : Int32), .unset, .unset, .unset, .unset]) rfl k) ?_
  refine own_go (mkF m 3 #[rv t, jv x, .second, iv (0 : Int32), .unset, .unset, .unset, .unset] [(.long x)]) (fun t' k => XS.lloadN X0.here hx rfl (hb hby own_dP_2) rfl  k) ?_
  refine own_go (mkF m 5 #[rv t, jv x, .second, iv (0 : Int32), jv x, .second, .unset, .unset] []) (fun t' k => XS.lstore X0.here hx rfl (hb hby own_dP_3) rfl (l' := #[rv t, jv x, .second, iv (0 : Int32), jv x, .second, .unset, .unset]) rfl k) ?_
  refine own_go (mkF m 6 #[rv t, jv x, .second, iv (0 : Int32), jv x, .second, .unset, .unset] [(.ref t)]) (fun t' k => XS.aloadN X0.here hx rfl (hb hby own_dP_5) rfl rfl  k) ?_
  refine X0.getF hx hZ hown (hw _ (List.mem_of_getElem? (i := 32) rfl)) e0 F_top (hb hby own_dP_6) ?_
  intro T1 X1 e1
  refine own_go (mkF m 11 #[rv t, jv x, .second, iv (0 : Int32), jv x, .second, iv (4 : Int32), .unset] []) (fun t' k => XS.istore X1.here hx rfl (hb hby own_dP_9) rfl (l' := #[rv t, jv x, .second, iv (0 : Int32), jv x, .second, iv (4 : Int32), .unset]) rfl k) ?_
  refine own_go (mkF m 13 #[rv t, jv x, .second, iv (0 : Int32), jv x, .second, iv (4 : Int32), .unset] [(.int (4 : Int32))]) (fun t' k => XS.iload X1.here hx rfl (hb hby own_dP_11) rfl  k) ?_
  refine own_go (mkF m 16 #[rv t, jv x, .second, iv (0 : Int32), jv x, .second, iv (4 : Int32), .unset] []) (fun t' k => XS.ifNo X1.here hx rfl (hb hby own_dP_13) rfl ((if0 _ _).trans (tlt (by decide)).2.2.2) k) ?_
  refine own_go (mkF m 17 #[rv t, jv x, .second, iv (0 : Int32), jv x, .second, iv (4 : Int32), .unset] [(.int (0 : Int32))]) (fun t' k => XS.iloadN X1.here hx rfl (hb hby own_dP_16) rfl  k) ?_
  refine own_go (mkF m 19 #[rv t, jv x, .second, iv (0 : Int32), jv x, .second, iv (4 : Int32), .unset] [(.int (4 : Int32)), (.int (0 : Int32))]) (fun t' k => XS.iload X1.here hx rfl (hb hby own_dP_17) rfl  k) ?_
  refine own_go (mkF m 20 #[rv t, jv x, .second, iv (0 : Int32), jv x, .second, iv (4 : Int32), .unset] [(.int (4 : Int32))]) (fun t' k => XS.iadd X1.here hx rfl (hb hby own_dP_19) rfl k) ?_
  refine own_go (mkF m 22 #[rv t, jv x, .second, iv (0 : Int32), jv x, .second, iv (4 : Int32), iv (4 : Int32)] []) (fun t' k => XS.istore X1.here hx rfl (hb hby own_dP_20) rfl (l' := #[rv t, jv x, .second, iv (0 : Int32), jv x, .second, iv (4 : Int32), iv (4 : Int32)]) rfl k) ?_
  refine own_go (mkF m 24 #[rv t, jv x, .second, iv (0 : Int32), jv x, .second, iv (4 : Int32), iv (4 : Int32)] [(.int (4 : Int32))]) (fun t' k => XS.iload X1.here hx rfl (hb hby own_dP_22) rfl  k) ?_
  refine own_go (mkF m 25 #[rv t, jv x, .second, iv (0 : Int32), jv x, .second, iv (4 : Int32), iv (4 : Int32)] [(.ref t), (.int (4 : Int32))]) (fun t' k => XS.aloadN X1.here hx rfl (hb hby own_dP_24) rfl rfl  k) ?_
  refine X1.getF hx hZ hown (hw _ (List.mem_of_getElem? (i := 21) rfl)) e1 F_counts (hb hby own_dP_25) ?_
  intro T2 X2 e2
  refine X2.alen hx hZ e2 A_bc (hb hby own_dP_28) ?_
  show own_G p e below s _ _ _ T2 (mkF m 29 #[rv t, jv x, .second, iv (0 : Int32), jv x, .second, iv (4 : Int32), iv (4 : Int32)] [(.int (7 : Int32)), (.int (4 : Int32))])
  refine own_go (mkF m 32 #[rv t, jv x, .second, iv (0 : Int32), jv x, .second, iv (4 : Int32), iv (4 : Int32)] []) (fun t' k => XS.icmpNo X2.here hx rfl (hb hby own_dP_29) rfl (tlt (by decide)).2.1 k) ?_
  refine own_go (mkF m 33 #[rv t, jv x, .second, iv (0 : Int32), jv x, .second, iv (4 : Int32), iv (4 : Int32)] [(.ref t)]) (fun t' k => XS.aloadN X2.here hx rfl (hb hby own_dP_32) rfl rfl  k) ?_
  refine X2.getF hx hZ hown (hw _ (List.mem_of_getElem? (i := 21) rfl)) e2 F_counts (hb hby own_dP_33) ?_
  intro T3 X3 e3
  refine own_go (mkF m 38 #[rv t, jv x, .second, iv (0 : Int32), jv x, .second, iv (4 : Int32), iv (4 : Int32)] [(.int (4 : Int32)), (.ref bc)]) (fun t' k => XS.iload X3.here hx rfl (hb hby own_dP_36) rfl  k) ?_
  refine X3.ldI hx hZ e3 A_bc (v := (.int k4)) 4 (by decide) rfl (hb hby own_dP_38) ?_
  refine own_go (mkF m 40 #[rv t, jv x, .second, iv (0 : Int32), jv x, .second, iv (4 : Int32), iv (4 : Int32)] [(.long (k4.toInt64))]) (fun t' k => XS.i2l X3.here hx rfl (hb hby own_dP_39) rfl k) ?_
  refine own_go (mkF m 42 #[rv t, jv x, .second, iv (0 : Int32), jv x, .second, iv (4 : Int32), iv (4 : Int32)] [(.long x), (.long (k4.toInt64))]) (fun t' k => XS.lload X3.here hx rfl (hb hby own_dP_40) rfl  k) ?_
  refine own_go (mkF m 43 #[rv t, jv x, .second, iv (0 : Int32), jv x, .second, iv (4 : Int32), iv (4 : Int32)] [(.int (lcmpW (k4.toInt64) x))]) (fun t' k => XS.lcmp X3.here hx rfl (hb hby own_dP_42) rfl k) ?_
  by_cases hc43 : x < (k4.toInt64)
  · skip
    refine own_go (mkF m 62 #[rv t, jv x, .second, iv (0 : Int32), jv x, .second, iv (4 : Int32), iv (4 : Int32)] []) (fun t' k => XS.ifYes X3.here hx rfl (pc0 := 43) (pc' := 62) rfl (hb hby own_dP_43) rfl ((if0 _ _).trans (tlt ((lw_gt (k4.toInt64) x).mpr hc43)).2.2.1) (by decide) (by decide) k) ?_
    refine own_go (mkF m 64 #[rv t, jv x, .second, iv (0 : Int32), jv x, .second, iv (4 : Int32), iv (4 : Int32)] [(.int (4 : Int32))]) (fun t' k => XS.iload X3.here hx rfl (hb hby own_dP_62) rfl  k) ?_
    refine own_go (mkF m 65 #[rv t, jv x, .second, iv (0 : Int32), jv x, .second, iv (4 : Int32), iv (4 : Int32)] [(.int (1 : Int32)), (.int (4 : Int32))]) (fun t' k => XS.iconst X3.here hx rfl (hb hby own_dP_64) k) ?_
    refine own_go (mkF m 66 #[rv t, jv x, .second, iv (0 : Int32), jv x, .second, iv (4 : Int32), iv (4 : Int32)] [(.int (2 : Int32))]) (fun t' k => XS.iushr X3.here hx rfl (hb hby own_dP_65) rfl k) ?_
    refine own_go (mkF m 68 #[rv t, jv x, .second, iv (0 : Int32), jv x, .second, iv (2 : Int32), iv (4 : Int32)] []) (fun t' k => XS.istore X3.here hx rfl (hb hby own_dP_66) rfl (l' := #[rv t, jv x, .second, iv (0 : Int32), jv x, .second, iv (2 : Int32), iv (4 : Int32)]) rfl k) ?_
    refine own_go (mkF m 11 #[rv t, jv x, .second, iv (0 : Int32), jv x, .second, iv (2 : Int32), iv (4 : Int32)] []) (fun t' k => XS.goto X3.here hx rfl (pc0 := 68) (pc' := 11) rfl (hb hby own_dP_68) (by decide) (by decide) k) ?_
    refine own_go (mkF m 13 #[rv t, jv x, .second, iv (0 : Int32), jv x, .second, iv (2 : Int32), iv (4 : Int32)] [(.int (2 : Int32))]) (fun t' k => XS.iload X3.here hx rfl (hb hby own_dP_11) rfl  k) ?_
    refine own_go (mkF m 16 #[rv t, jv x, .second, iv (0 : Int32), jv x, .second, iv (2 : Int32), iv (4 : Int32)] []) (fun t' k => XS.ifNo X3.here hx rfl (hb hby own_dP_13) rfl ((if0 _ _).trans (tlt (by decide)).2.2.2) k) ?_
    refine own_go (mkF m 17 #[rv t, jv x, .second, iv (0 : Int32), jv x, .second, iv (2 : Int32), iv (4 : Int32)] [(.int (0 : Int32))]) (fun t' k => XS.iloadN X3.here hx rfl (hb hby own_dP_16) rfl  k) ?_
    refine own_go (mkF m 19 #[rv t, jv x, .second, iv (0 : Int32), jv x, .second, iv (2 : Int32), iv (4 : Int32)] [(.int (2 : Int32)), (.int (0 : Int32))]) (fun t' k => XS.iload X3.here hx rfl (hb hby own_dP_17) rfl  k) ?_
    refine own_go (mkF m 20 #[rv t, jv x, .second, iv (0 : Int32), jv x, .second, iv (2 : Int32), iv (4 : Int32)] [(.int (2 : Int32))]) (fun t' k => XS.iadd X3.here hx rfl (hb hby own_dP_19) rfl k) ?_
    refine own_go (mkF m 22 #[rv t, jv x, .second, iv (0 : Int32), jv x, .second, iv (2 : Int32), iv (2 : Int32)] []) (fun t' k => XS.istore X3.here hx rfl (hb hby own_dP_20) rfl (l' := #[rv t, jv x, .second, iv (0 : Int32), jv x, .second, iv (2 : Int32), iv (2 : Int32)]) rfl k) ?_
    refine own_go (mkF m 24 #[rv t, jv x, .second, iv (0 : Int32), jv x, .second, iv (2 : Int32), iv (2 : Int32)] [(.int (2 : Int32))]) (fun t' k => XS.iload X3.here hx rfl (hb hby own_dP_22) rfl  k) ?_
    refine own_go (mkF m 25 #[rv t, jv x, .second, iv (0 : Int32), jv x, .second, iv (2 : Int32), iv (2 : Int32)] [(.ref t), (.int (2 : Int32))]) (fun t' k => XS.aloadN X3.here hx rfl (hb hby own_dP_24) rfl rfl  k) ?_
    refine X3.getF hx hZ hown (hw _ (List.mem_of_getElem? (i := 21) rfl)) e3 F_counts (hb hby own_dP_25) ?_
    intro T4 X4 e4
    refine X4.alen hx hZ e4 A_bc (hb hby own_dP_28) ?_
    show own_G p e below s _ _ _ T4 (mkF m 29 #[rv t, jv x, .second, iv (0 : Int32), jv x, .second, iv (2 : Int32), iv (2 : Int32)] [(.int (7 : Int32)), (.int (2 : Int32))])
    refine own_go (mkF m 32 #[rv t, jv x, .second, iv (0 : Int32), jv x, .second, iv (2 : Int32), iv (2 : Int32)] []) (fun t' k => XS.icmpNo X4.here hx rfl (hb hby own_dP_29) rfl (tlt (by decide)).2.1 k) ?_
    refine own_go (mkF m 33 #[rv t, jv x, .second, iv (0 : Int32), jv x, .second, iv (2 : Int32), iv (2 : Int32)] [(.ref t)]) (fun t' k => XS.aloadN X4.here hx rfl (hb hby own_dP_32) rfl rfl  k) ?_
    refine X4.getF hx hZ hown (hw _ (List.mem_of_getElem? (i := 21) rfl)) e4 F_counts (hb hby own_dP_33) ?_
    intro T5 X5 e5
    refine own_go (mkF m 38 #[rv t, jv x, .second, iv (0 : Int32), jv x, .second, iv (2 : Int32), iv (2 : Int32)] [(.int (2 : Int32)), (.ref bc)]) (fun t' k => XS.iload X5.here hx rfl (hb hby own_dP_36) rfl  k) ?_
    refine X5.ldI hx hZ e5 A_bc (v := (.int k2)) 2 (by decide) rfl (hb hby own_dP_38) ?_
    refine own_go (mkF m 40 #[rv t, jv x, .second, iv (0 : Int32), jv x, .second, iv (2 : Int32), iv (2 : Int32)] [(.long (k2.toInt64))]) (fun t' k => XS.i2l X5.here hx rfl (hb hby own_dP_39) rfl k) ?_
    refine own_go (mkF m 42 #[rv t, jv x, .second, iv (0 : Int32), jv x, .second, iv (2 : Int32), iv (2 : Int32)] [(.long x), (.long (k2.toInt64))]) (fun t' k => XS.lload X5.here hx rfl (hb hby own_dP_40) rfl  k) ?_
    refine own_go (mkF m 43 #[rv t, jv x, .second, iv (0 : Int32), jv x, .second, iv (2 : Int32), iv (2 : Int32)] [(.int (lcmpW (k2.toInt64) x))]) (fun t' k => XS.lcmp X5.here hx rfl (hb hby own_dP_42) rfl k) ?_
    by_cases hc43_1 : x < (k2.toInt64)
    · skip
      refine own_go (mkF m 62 #[rv t, jv x, .second, iv (0 : Int32), jv x, .second, iv (2 : Int32), iv (2 : Int32)] []) (fun t' k => XS.ifYes X5.here hx rfl (pc0 := 43) (pc' := 62) rfl (hb hby own_dP_43) rfl ((if0 _ _).trans (tlt ((lw_gt (k2.toInt64) x).mpr hc43_1)).2.2.1) (by decide) (by decide) k) ?_
      refine own_go (mkF m 64 #[rv t, jv x, .second, iv (0 : Int32), jv x, .second, iv (2 : Int32), iv (2 : Int32)] [(.int (2 : Int32))]) (fun t' k => XS.iload X5.here hx rfl (hb hby own_dP_62) rfl  k) ?_
      refine own_go (mkF m 65 #[rv t, jv x, .second, iv (0 : Int32), jv x, .second, iv (2 : Int32), iv (2 : Int32)] [(.int (1 : Int32)), (.int (2 : Int32))]) (fun t' k => XS.iconst X5.here hx rfl (hb hby own_dP_64) k) ?_
      refine own_go (mkF m 66 #[rv t, jv x, .second, iv (0 : Int32), jv x, .second, iv (2 : Int32), iv (2 : Int32)] [(.int (1 : Int32))]) (fun t' k => XS.iushr X5.here hx rfl (hb hby own_dP_65) rfl k) ?_
      refine own_go (mkF m 68 #[rv t, jv x, .second, iv (0 : Int32), jv x, .second, iv (1 : Int32), iv (2 : Int32)] []) (fun t' k => XS.istore X5.here hx rfl (hb hby own_dP_66) rfl (l' := #[rv t, jv x, .second, iv (0 : Int32), jv x, .second, iv (1 : Int32), iv (2 : Int32)]) rfl k) ?_
      refine own_go (mkF m 11 #[rv t, jv x, .second, iv (0 : Int32), jv x, .second, iv (1 : Int32), iv (2 : Int32)] []) (fun t' k => XS.goto X5.here hx rfl (pc0 := 68) (pc' := 11) rfl (hb hby own_dP_68) (by decide) (by decide) k) ?_
      refine own_go (mkF m 13 #[rv t, jv x, .second, iv (0 : Int32), jv x, .second, iv (1 : Int32), iv (2 : Int32)] [(.int (1 : Int32))]) (fun t' k => XS.iload X5.here hx rfl (hb hby own_dP_11) rfl  k) ?_
      refine own_go (mkF m 16 #[rv t, jv x, .second, iv (0 : Int32), jv x, .second, iv (1 : Int32), iv (2 : Int32)] []) (fun t' k => XS.ifNo X5.here hx rfl (hb hby own_dP_13) rfl ((if0 _ _).trans (tlt (by decide)).2.2.2) k) ?_
      refine own_go (mkF m 17 #[rv t, jv x, .second, iv (0 : Int32), jv x, .second, iv (1 : Int32), iv (2 : Int32)] [(.int (0 : Int32))]) (fun t' k => XS.iloadN X5.here hx rfl (hb hby own_dP_16) rfl  k) ?_
      refine own_go (mkF m 19 #[rv t, jv x, .second, iv (0 : Int32), jv x, .second, iv (1 : Int32), iv (2 : Int32)] [(.int (1 : Int32)), (.int (0 : Int32))]) (fun t' k => XS.iload X5.here hx rfl (hb hby own_dP_17) rfl  k) ?_
      refine own_go (mkF m 20 #[rv t, jv x, .second, iv (0 : Int32), jv x, .second, iv (1 : Int32), iv (2 : Int32)] [(.int (1 : Int32))]) (fun t' k => XS.iadd X5.here hx rfl (hb hby own_dP_19) rfl k) ?_
      refine own_go (mkF m 22 #[rv t, jv x, .second, iv (0 : Int32), jv x, .second, iv (1 : Int32), iv (1 : Int32)] []) (fun t' k => XS.istore X5.here hx rfl (hb hby own_dP_20) rfl (l' := #[rv t, jv x, .second, iv (0 : Int32), jv x, .second, iv (1 : Int32), iv (1 : Int32)]) rfl k) ?_
      refine own_go (mkF m 24 #[rv t, jv x, .second, iv (0 : Int32), jv x, .second, iv (1 : Int32), iv (1 : Int32)] [(.int (1 : Int32))]) (fun t' k => XS.iload X5.here hx rfl (hb hby own_dP_22) rfl  k) ?_
      refine own_go (mkF m 25 #[rv t, jv x, .second, iv (0 : Int32), jv x, .second, iv (1 : Int32), iv (1 : Int32)] [(.ref t), (.int (1 : Int32))]) (fun t' k => XS.aloadN X5.here hx rfl (hb hby own_dP_24) rfl rfl  k) ?_
      refine X5.getF hx hZ hown (hw _ (List.mem_of_getElem? (i := 21) rfl)) e5 F_counts (hb hby own_dP_25) ?_
      intro T6 X6 e6
      refine X6.alen hx hZ e6 A_bc (hb hby own_dP_28) ?_
      show own_G p e below s _ _ _ T6 (mkF m 29 #[rv t, jv x, .second, iv (0 : Int32), jv x, .second, iv (1 : Int32), iv (1 : Int32)] [(.int (7 : Int32)), (.int (1 : Int32))])
      refine own_go (mkF m 32 #[rv t, jv x, .second, iv (0 : Int32), jv x, .second, iv (1 : Int32), iv (1 : Int32)] []) (fun t' k => XS.icmpNo X6.here hx rfl (hb hby own_dP_29) rfl (tlt (by decide)).2.1 k) ?_
      refine own_go (mkF m 33 #[rv t, jv x, .second, iv (0 : Int32), jv x, .second, iv (1 : Int32), iv (1 : Int32)] [(.ref t)]) (fun t' k => XS.aloadN X6.here hx rfl (hb hby own_dP_32) rfl rfl  k) ?_
      refine X6.getF hx hZ hown (hw _ (List.mem_of_getElem? (i := 21) rfl)) e6 F_counts (hb hby own_dP_33) ?_
      intro T7 X7 e7
      refine own_go (mkF m 38 #[rv t, jv x, .second, iv (0 : Int32), jv x, .second, iv (1 : Int32), iv (1 : Int32)] [(.int (1 : Int32)), (.ref bc)]) (fun t' k => XS.iload X7.here hx rfl (hb hby own_dP_36) rfl  k) ?_
      refine X7.ldI hx hZ e7 A_bc (v := (.int k1)) 1 (by decide) rfl (hb hby own_dP_38) ?_
      refine own_go (mkF m 40 #[rv t, jv x, .second, iv (0 : Int32), jv x, .second, iv (1 : Int32), iv (1 : Int32)] [(.long (k1.toInt64))]) (fun t' k => XS.i2l X7.here hx rfl (hb hby own_dP_39) rfl k) ?_
      refine own_go (mkF m 42 #[rv t, jv x, .second, iv (0 : Int32), jv x, .second, iv (1 : Int32), iv (1 : Int32)] [(.long x), (.long (k1.toInt64))]) (fun t' k => XS.lload X7.here hx rfl (hb hby own_dP_40) rfl  k) ?_
      refine own_go (mkF m 43 #[rv t, jv x, .second, iv (0 : Int32), jv x, .second, iv (1 : Int32), iv (1 : Int32)] [(.int (lcmpW (k1.toInt64) x))]) (fun t' k => XS.lcmp X7.here hx rfl (hb hby own_dP_42) rfl k) ?_
      by_cases hc43_2 : x < (k1.toInt64)
      · skip
        refine own_go (mkF m 62 #[rv t, jv x, .second, iv (0 : Int32), jv x, .second, iv (1 : Int32), iv (1 : Int32)] []) (fun t' k => XS.ifYes X7.here hx rfl (pc0 := 43) (pc' := 62) rfl (hb hby own_dP_43) rfl ((if0 _ _).trans (tlt ((lw_gt (k1.toInt64) x).mpr hc43_2)).2.2.1) (by decide) (by decide) k) ?_
        refine own_go (mkF m 64 #[rv t, jv x, .second, iv (0 : Int32), jv x, .second, iv (1 : Int32), iv (1 : Int32)] [(.int (1 : Int32))]) (fun t' k => XS.iload X7.here hx rfl (hb hby own_dP_62) rfl  k) ?_
        refine own_go (mkF m 65 #[rv t, jv x, .second, iv (0 : Int32), jv x, .second, iv (1 : Int32), iv (1 : Int32)] [(.int (1 : Int32)), (.int (1 : Int32))]) (fun t' k => XS.iconst X7.here hx rfl (hb hby own_dP_64) k) ?_
        refine own_go (mkF m 66 #[rv t, jv x, .second, iv (0 : Int32), jv x, .second, iv (1 : Int32), iv (1 : Int32)] [(.int (0 : Int32))]) (fun t' k => XS.iushr X7.here hx rfl (hb hby own_dP_65) rfl k) ?_
        refine own_go (mkF m 68 #[rv t, jv x, .second, iv (0 : Int32), jv x, .second, iv (0 : Int32), iv (1 : Int32)] []) (fun t' k => XS.istore X7.here hx rfl (hb hby own_dP_66) rfl (l' := #[rv t, jv x, .second, iv (0 : Int32), jv x, .second, iv (0 : Int32), iv (1 : Int32)]) rfl k) ?_
        refine own_go (mkF m 11 #[rv t, jv x, .second, iv (0 : Int32), jv x, .second, iv (0 : Int32), iv (1 : Int32)] []) (fun t' k => XS.goto X7.here hx rfl (pc0 := 68) (pc' := 11) rfl (hb hby own_dP_68) (by decide) (by decide) k) ?_
        refine own_go (mkF m 13 #[rv t, jv x, .second, iv (0 : Int32), jv x, .second, iv (0 : Int32), iv (1 : Int32)] [(.int (0 : Int32))]) (fun t' k => XS.iload X7.here hx rfl (hb hby own_dP_11) rfl  k) ?_
        refine own_go (mkF m 71 #[rv t, jv x, .second, iv (0 : Int32), jv x, .second, iv (0 : Int32), iv (1 : Int32)] []) (fun t' k => XS.ifYes X7.here hx rfl (pc0 := 13) (pc' := 71) rfl (hb hby own_dP_13) rfl ((if0 _ _).trans (flt (by decide)).2.2.2) (by decide) (by decide) k) ?_
        refine own_go (mkF m 72 #[rv t, jv x, .second, iv (0 : Int32), jv x, .second, iv (0 : Int32), iv (1 : Int32)] [(.int (0 : Int32))]) (fun t' k => XS.iloadN X7.here hx rfl (hb hby own_dP_71) rfl  k) ?_
        refine X7.retI hx hlk hret (hb hby own_dP_72) ?_ (by decide) (by decide)
        exact ⟨congrArg (fun z => some (Value.int z)) ((show (own_tp x k0 k1 k2 k3 k4 k5 k6) = (0 : Int32) from ((if_pos hc43).trans ((if_pos hc43_1).trans ((if_pos hc43_2).trans rfl)))).trans (by rfl : (0 : Int32) = (0 : Int32))).symm, e7⟩
      · skip
        refine own_go (mkF m 46 #[rv t, jv x, .second, iv (0 : Int32), jv x, .second, iv (1 : Int32), iv (1 : Int32)] []) (fun t' k => XS.ifNo X7.here hx rfl (hb hby own_dP_43) rfl ((if0 _ _).trans (flt (fun q => hc43_2 ((lw_gt (k1.toInt64) x).mp q))).2.2.1) k) ?_
        refine own_go (mkF m 48 #[rv t, jv x, .second, iv (0 : Int32), jv x, .second, iv (1 : Int32), iv (1 : Int32)] [(.int (1 : Int32))]) (fun t' k => XS.iload X7.here hx rfl (hb hby own_dP_46) rfl  k) ?_
        refine own_go (mkF m 49 #[rv t, jv x, .second, iv (1 : Int32), jv x, .second, iv (1 : Int32), iv (1 : Int32)] []) (fun t' k => XS.istoreN X7.here hx rfl (hb hby own_dP_48) rfl (l' := #[rv t, jv x, .second, iv (1 : Int32), jv x, .second, iv (1 : Int32), iv (1 : Int32)]) rfl k) ?_
        refine own_go (mkF m 51 #[rv t, jv x, .second, iv (1 : Int32), jv x, .second, iv (1 : Int32), iv (1 : Int32)] [(.long x)]) (fun t' k => XS.lload X7.here hx rfl (hb hby own_dP_49) rfl  k) ?_
        refine own_go (mkF m 52 #[rv t, jv x, .second, iv (1 : Int32), jv x, .second, iv (1 : Int32), iv (1 : Int32)] [(.ref t), (.long x)]) (fun t' k => XS.aloadN X7.here hx rfl (hb hby own_dP_51) rfl rfl  k) ?_
        refine X7.getF hx hZ hown (hw _ (List.mem_of_getElem? (i := 21) rfl)) e7 F_counts (hb hby own_dP_52) ?_
        intro T8 X8 e8
        refine own_go (mkF m 57 #[rv t, jv x, .second, iv (1 : Int32), jv x, .second, iv (1 : Int32), iv (1 : Int32)] [(.int (1 : Int32)), (.ref bc), (.long x)]) (fun t' k => XS.iload X8.here hx rfl (hb hby own_dP_55) rfl  k) ?_
        refine X8.ldI hx hZ e8 A_bc (v := (.int k1)) 1 (by decide) rfl (hb hby own_dP_57) ?_
        refine own_go (mkF m 59 #[rv t, jv x, .second, iv (1 : Int32), jv x, .second, iv (1 : Int32), iv (1 : Int32)] [(.long (k1.toInt64)), (.long x)]) (fun t' k => XS.i2l X8.here hx rfl (hb hby own_dP_58) rfl k) ?_
        refine own_go (mkF m 60 #[rv t, jv x, .second, iv (1 : Int32), jv x, .second, iv (1 : Int32), iv (1 : Int32)] [(.long (x - (k1.toInt64)))]) (fun t' k => XS.lsub X8.here hx rfl (hb hby own_dP_59) rfl k) ?_
        refine own_go (mkF m 62 #[rv t, jv x, .second, iv (1 : Int32), jv (x - (k1.toInt64)), .second, iv (1 : Int32), iv (1 : Int32)] []) (fun t' k => XS.lstore X8.here hx rfl (hb hby own_dP_60) rfl (l' := #[rv t, jv x, .second, iv (1 : Int32), jv (x - (k1.toInt64)), .second, iv (1 : Int32), iv (1 : Int32)]) rfl k) ?_
        refine own_go (mkF m 64 #[rv t, jv x, .second, iv (1 : Int32), jv (x - (k1.toInt64)), .second, iv (1 : Int32), iv (1 : Int32)] [(.int (1 : Int32))]) (fun t' k => XS.iload X8.here hx rfl (hb hby own_dP_62) rfl  k) ?_
        refine own_go (mkF m 65 #[rv t, jv x, .second, iv (1 : Int32), jv (x - (k1.toInt64)), .second, iv (1 : Int32), iv (1 : Int32)] [(.int (1 : Int32)), (.int (1 : Int32))]) (fun t' k => XS.iconst X8.here hx rfl (hb hby own_dP_64) k) ?_
        refine own_go (mkF m 66 #[rv t, jv x, .second, iv (1 : Int32), jv (x - (k1.toInt64)), .second, iv (1 : Int32), iv (1 : Int32)] [(.int (0 : Int32))]) (fun t' k => XS.iushr X8.here hx rfl (hb hby own_dP_65) rfl k) ?_
        refine own_go (mkF m 68 #[rv t, jv x, .second, iv (1 : Int32), jv (x - (k1.toInt64)), .second, iv (0 : Int32), iv (1 : Int32)] []) (fun t' k => XS.istore X8.here hx rfl (hb hby own_dP_66) rfl (l' := #[rv t, jv x, .second, iv (1 : Int32), jv (x - (k1.toInt64)), .second, iv (0 : Int32), iv (1 : Int32)]) rfl k) ?_
        refine own_go (mkF m 11 #[rv t, jv x, .second, iv (1 : Int32), jv (x - (k1.toInt64)), .second, iv (0 : Int32), iv (1 : Int32)] []) (fun t' k => XS.goto X8.here hx rfl (pc0 := 68) (pc' := 11) rfl (hb hby own_dP_68) (by decide) (by decide) k) ?_
        refine own_go (mkF m 13 #[rv t, jv x, .second, iv (1 : Int32), jv (x - (k1.toInt64)), .second, iv (0 : Int32), iv (1 : Int32)] [(.int (0 : Int32))]) (fun t' k => XS.iload X8.here hx rfl (hb hby own_dP_11) rfl  k) ?_
        refine own_go (mkF m 71 #[rv t, jv x, .second, iv (1 : Int32), jv (x - (k1.toInt64)), .second, iv (0 : Int32), iv (1 : Int32)] []) (fun t' k => XS.ifYes X8.here hx rfl (pc0 := 13) (pc' := 71) rfl (hb hby own_dP_13) rfl ((if0 _ _).trans (flt (by decide)).2.2.2) (by decide) (by decide) k) ?_
        refine own_go (mkF m 72 #[rv t, jv x, .second, iv (1 : Int32), jv (x - (k1.toInt64)), .second, iv (0 : Int32), iv (1 : Int32)] [(.int (1 : Int32))]) (fun t' k => XS.iloadN X8.here hx rfl (hb hby own_dP_71) rfl  k) ?_
        refine X8.retI hx hlk hret (hb hby own_dP_72) ?_ (by decide) (by decide)
        exact ⟨congrArg (fun z => some (Value.int z)) ((show (own_tp x k0 k1 k2 k3 k4 k5 k6) = (1 : Int32) from ((if_pos hc43).trans ((if_pos hc43_1).trans ((if_neg hc43_2).trans rfl)))).trans (by rfl : (1 : Int32) = (1 : Int32))).symm, e8⟩
    · skip
      refine own_go (mkF m 46 #[rv t, jv x, .second, iv (0 : Int32), jv x, .second, iv (2 : Int32), iv (2 : Int32)] []) (fun t' k => XS.ifNo X5.here hx rfl (hb hby own_dP_43) rfl ((if0 _ _).trans (flt (fun q => hc43_1 ((lw_gt (k2.toInt64) x).mp q))).2.2.1) k) ?_
      refine own_go (mkF m 48 #[rv t, jv x, .second, iv (0 : Int32), jv x, .second, iv (2 : Int32), iv (2 : Int32)] [(.int (2 : Int32))]) (fun t' k => XS.iload X5.here hx rfl (hb hby own_dP_46) rfl  k) ?_
      refine own_go (mkF m 49 #[rv t, jv x, .second, iv (2 : Int32), jv x, .second, iv (2 : Int32), iv (2 : Int32)] []) (fun t' k => XS.istoreN X5.here hx rfl (hb hby own_dP_48) rfl (l' := #[rv t, jv x, .second, iv (2 : Int32), jv x, .second, iv (2 : Int32), iv (2 : Int32)]) rfl k) ?_
      refine own_go (mkF m 51 #[rv t, jv x, .second, iv (2 : Int32), jv x, .second, iv (2 : Int32), iv (2 : Int32)] [(.long x)]) (fun t' k => XS.lload X5.here hx rfl (hb hby own_dP_49) rfl  k) ?_
      refine own_go (mkF m 52 #[rv t, jv x, .second, iv (2 : Int32), jv x, .second, iv (2 : Int32), iv (2 : Int32)] [(.ref t), (.long x)]) (fun t' k => XS.aloadN X5.here hx rfl (hb hby own_dP_51) rfl rfl  k) ?_
      refine X5.getF hx hZ hown (hw _ (List.mem_of_getElem? (i := 21) rfl)) e5 F_counts (hb hby own_dP_52) ?_
      intro T9 X9 e9
      refine own_go (mkF m 57 #[rv t, jv x, .second, iv (2 : Int32), jv x, .second, iv (2 : Int32), iv (2 : Int32)] [(.int (2 : Int32)), (.ref bc), (.long x)]) (fun t' k => XS.iload X9.here hx rfl (hb hby own_dP_55) rfl  k) ?_
      refine X9.ldI hx hZ e9 A_bc (v := (.int k2)) 2 (by decide) rfl (hb hby own_dP_57) ?_
      refine own_go (mkF m 59 #[rv t, jv x, .second, iv (2 : Int32), jv x, .second, iv (2 : Int32), iv (2 : Int32)] [(.long (k2.toInt64)), (.long x)]) (fun t' k => XS.i2l X9.here hx rfl (hb hby own_dP_58) rfl k) ?_
      refine own_go (mkF m 60 #[rv t, jv x, .second, iv (2 : Int32), jv x, .second, iv (2 : Int32), iv (2 : Int32)] [(.long (x - (k2.toInt64)))]) (fun t' k => XS.lsub X9.here hx rfl (hb hby own_dP_59) rfl k) ?_
      refine own_go (mkF m 62 #[rv t, jv x, .second, iv (2 : Int32), jv (x - (k2.toInt64)), .second, iv (2 : Int32), iv (2 : Int32)] []) (fun t' k => XS.lstore X9.here hx rfl (hb hby own_dP_60) rfl (l' := #[rv t, jv x, .second, iv (2 : Int32), jv (x - (k2.toInt64)), .second, iv (2 : Int32), iv (2 : Int32)]) rfl k) ?_
      refine own_go (mkF m 64 #[rv t, jv x, .second, iv (2 : Int32), jv (x - (k2.toInt64)), .second, iv (2 : Int32), iv (2 : Int32)] [(.int (2 : Int32))]) (fun t' k => XS.iload X9.here hx rfl (hb hby own_dP_62) rfl  k) ?_
      refine own_go (mkF m 65 #[rv t, jv x, .second, iv (2 : Int32), jv (x - (k2.toInt64)), .second, iv (2 : Int32), iv (2 : Int32)] [(.int (1 : Int32)), (.int (2 : Int32))]) (fun t' k => XS.iconst X9.here hx rfl (hb hby own_dP_64) k) ?_
      refine own_go (mkF m 66 #[rv t, jv x, .second, iv (2 : Int32), jv (x - (k2.toInt64)), .second, iv (2 : Int32), iv (2 : Int32)] [(.int (1 : Int32))]) (fun t' k => XS.iushr X9.here hx rfl (hb hby own_dP_65) rfl k) ?_
      refine own_go (mkF m 68 #[rv t, jv x, .second, iv (2 : Int32), jv (x - (k2.toInt64)), .second, iv (1 : Int32), iv (2 : Int32)] []) (fun t' k => XS.istore X9.here hx rfl (hb hby own_dP_66) rfl (l' := #[rv t, jv x, .second, iv (2 : Int32), jv (x - (k2.toInt64)), .second, iv (1 : Int32), iv (2 : Int32)]) rfl k) ?_
      refine own_go (mkF m 11 #[rv t, jv x, .second, iv (2 : Int32), jv (x - (k2.toInt64)), .second, iv (1 : Int32), iv (2 : Int32)] []) (fun t' k => XS.goto X9.here hx rfl (pc0 := 68) (pc' := 11) rfl (hb hby own_dP_68) (by decide) (by decide) k) ?_
      refine own_go (mkF m 13 #[rv t, jv x, .second, iv (2 : Int32), jv (x - (k2.toInt64)), .second, iv (1 : Int32), iv (2 : Int32)] [(.int (1 : Int32))]) (fun t' k => XS.iload X9.here hx rfl (hb hby own_dP_11) rfl  k) ?_
      refine own_go (mkF m 16 #[rv t, jv x, .second, iv (2 : Int32), jv (x - (k2.toInt64)), .second, iv (1 : Int32), iv (2 : Int32)] []) (fun t' k => XS.ifNo X9.here hx rfl (hb hby own_dP_13) rfl ((if0 _ _).trans (tlt (by decide)).2.2.2) k) ?_
      refine own_go (mkF m 17 #[rv t, jv x, .second, iv (2 : Int32), jv (x - (k2.toInt64)), .second, iv (1 : Int32), iv (2 : Int32)] [(.int (2 : Int32))]) (fun t' k => XS.iloadN X9.here hx rfl (hb hby own_dP_16) rfl  k) ?_
      refine own_go (mkF m 19 #[rv t, jv x, .second, iv (2 : Int32), jv (x - (k2.toInt64)), .second, iv (1 : Int32), iv (2 : Int32)] [(.int (1 : Int32)), (.int (2 : Int32))]) (fun t' k => XS.iload X9.here hx rfl (hb hby own_dP_17) rfl  k) ?_
      refine own_go (mkF m 20 #[rv t, jv x, .second, iv (2 : Int32), jv (x - (k2.toInt64)), .second, iv (1 : Int32), iv (2 : Int32)] [(.int (3 : Int32))]) (fun t' k => XS.iadd X9.here hx rfl (hb hby own_dP_19) rfl k) ?_
      refine own_go (mkF m 22 #[rv t, jv x, .second, iv (2 : Int32), jv (x - (k2.toInt64)), .second, iv (1 : Int32), iv (3 : Int32)] []) (fun t' k => XS.istore X9.here hx rfl (hb hby own_dP_20) rfl (l' := #[rv t, jv x, .second, iv (2 : Int32), jv (x - (k2.toInt64)), .second, iv (1 : Int32), iv (3 : Int32)]) rfl k) ?_
      refine own_go (mkF m 24 #[rv t, jv x, .second, iv (2 : Int32), jv (x - (k2.toInt64)), .second, iv (1 : Int32), iv (3 : Int32)] [(.int (3 : Int32))]) (fun t' k => XS.iload X9.here hx rfl (hb hby own_dP_22) rfl  k) ?_
      refine own_go (mkF m 25 #[rv t, jv x, .second, iv (2 : Int32), jv (x - (k2.toInt64)), .second, iv (1 : Int32), iv (3 : Int32)] [(.ref t), (.int (3 : Int32))]) (fun t' k => XS.aloadN X9.here hx rfl (hb hby own_dP_24) rfl rfl  k) ?_
      refine X9.getF hx hZ hown (hw _ (List.mem_of_getElem? (i := 21) rfl)) e9 F_counts (hb hby own_dP_25) ?_
      intro T10 X10 e10
      refine X10.alen hx hZ e10 A_bc (hb hby own_dP_28) ?_
      show own_G p e below s _ _ _ T10 (mkF m 29 #[rv t, jv x, .second, iv (2 : Int32), jv (x - (k2.toInt64)), .second, iv (1 : Int32), iv (3 : Int32)] [(.int (7 : Int32)), (.int (3 : Int32))])
      refine own_go (mkF m 32 #[rv t, jv x, .second, iv (2 : Int32), jv (x - (k2.toInt64)), .second, iv (1 : Int32), iv (3 : Int32)] []) (fun t' k => XS.icmpNo X10.here hx rfl (hb hby own_dP_29) rfl (tlt (by decide)).2.1 k) ?_
      refine own_go (mkF m 33 #[rv t, jv x, .second, iv (2 : Int32), jv (x - (k2.toInt64)), .second, iv (1 : Int32), iv (3 : Int32)] [(.ref t)]) (fun t' k => XS.aloadN X10.here hx rfl (hb hby own_dP_32) rfl rfl  k) ?_
      refine X10.getF hx hZ hown (hw _ (List.mem_of_getElem? (i := 21) rfl)) e10 F_counts (hb hby own_dP_33) ?_
      intro T11 X11 e11
      refine own_go (mkF m 38 #[rv t, jv x, .second, iv (2 : Int32), jv (x - (k2.toInt64)), .second, iv (1 : Int32), iv (3 : Int32)] [(.int (3 : Int32)), (.ref bc)]) (fun t' k => XS.iload X11.here hx rfl (hb hby own_dP_36) rfl  k) ?_
      refine X11.ldI hx hZ e11 A_bc (v := (.int k3)) 3 (by decide) rfl (hb hby own_dP_38) ?_
      refine own_go (mkF m 40 #[rv t, jv x, .second, iv (2 : Int32), jv (x - (k2.toInt64)), .second, iv (1 : Int32), iv (3 : Int32)] [(.long (k3.toInt64))]) (fun t' k => XS.i2l X11.here hx rfl (hb hby own_dP_39) rfl k) ?_
      refine own_go (mkF m 42 #[rv t, jv x, .second, iv (2 : Int32), jv (x - (k2.toInt64)), .second, iv (1 : Int32), iv (3 : Int32)] [(.long (x - (k2.toInt64))), (.long (k3.toInt64))]) (fun t' k => XS.lload X11.here hx rfl (hb hby own_dP_40) rfl  k) ?_
      refine own_go (mkF m 43 #[rv t, jv x, .second, iv (2 : Int32), jv (x - (k2.toInt64)), .second, iv (1 : Int32), iv (3 : Int32)] [(.int (lcmpW (k3.toInt64) (x - (k2.toInt64))))]) (fun t' k => XS.lcmp X11.here hx rfl (hb hby own_dP_42) rfl k) ?_
      by_cases hc43_2 : (x - (k2.toInt64)) < (k3.toInt64)
      · skip
        refine own_go (mkF m 62 #[rv t, jv x, .second, iv (2 : Int32), jv (x - (k2.toInt64)), .second, iv (1 : Int32), iv (3 : Int32)] []) (fun t' k => XS.ifYes X11.here hx rfl (pc0 := 43) (pc' := 62) rfl (hb hby own_dP_43) rfl ((if0 _ _).trans (tlt ((lw_gt (k3.toInt64) (x - (k2.toInt64))).mpr hc43_2)).2.2.1) (by decide) (by decide) k) ?_
        refine own_go (mkF m 64 #[rv t, jv x, .second, iv (2 : Int32), jv (x - (k2.toInt64)), .second, iv (1 : Int32), iv (3 : Int32)] [(.int (1 : Int32))]) (fun t' k => XS.iload X11.here hx rfl (hb hby own_dP_62) rfl  k) ?_
        refine own_go (mkF m 65 #[rv t, jv x, .second, iv (2 : Int32), jv (x - (k2.toInt64)), .second, iv (1 : Int32), iv (3 : Int32)] [(.int (1 : Int32)), (.int (1 : Int32))]) (fun t' k => XS.iconst X11.here hx rfl (hb hby own_dP_64) k) ?_
        refine own_go (mkF m 66 #[rv t, jv x, .second, iv (2 : Int32), jv (x - (k2.toInt64)), .second, iv (1 : Int32), iv (3 : Int32)] [(.int (0 : Int32))]) (fun t' k => XS.iushr X11.here hx rfl (hb hby own_dP_65) rfl k) ?_
        refine own_go (mkF m 68 #[rv t, jv x, .second, iv (2 : Int32), jv (x - (k2.toInt64)), .second, iv (0 : Int32), iv (3 : Int32)] []) (fun t' k => XS.istore X11.here hx rfl (hb hby own_dP_66) rfl (l' := #[rv t, jv x, .second, iv (2 : Int32), jv (x - (k2.toInt64)), .second, iv (0 : Int32), iv (3 : Int32)]) rfl k) ?_
        refine own_go (mkF m 11 #[rv t, jv x, .second, iv (2 : Int32), jv (x - (k2.toInt64)), .second, iv (0 : Int32), iv (3 : Int32)] []) (fun t' k => XS.goto X11.here hx rfl (pc0 := 68) (pc' := 11) rfl (hb hby own_dP_68) (by decide) (by decide) k) ?_
        refine own_go (mkF m 13 #[rv t, jv x, .second, iv (2 : Int32), jv (x - (k2.toInt64)), .second, iv (0 : Int32), iv (3 : Int32)] [(.int (0 : Int32))]) (fun t' k => XS.iload X11.here hx rfl (hb hby own_dP_11) rfl  k) ?_
        refine own_go (mkF m 71 #[rv t, jv x, .second, iv (2 : Int32), jv (x - (k2.toInt64)), .second, iv (0 : Int32), iv (3 : Int32)] []) (fun t' k => XS.ifYes X11.here hx rfl (pc0 := 13) (pc' := 71) rfl (hb hby own_dP_13) rfl ((if0 _ _).trans (flt (by decide)).2.2.2) (by decide) (by decide) k) ?_
        refine own_go (mkF m 72 #[rv t, jv x, .second, iv (2 : Int32), jv (x - (k2.toInt64)), .second, iv (0 : Int32), iv (3 : Int32)] [(.int (2 : Int32))]) (fun t' k => XS.iloadN X11.here hx rfl (hb hby own_dP_71) rfl  k) ?_
        refine X11.retI hx hlk hret (hb hby own_dP_72) ?_ (by decide) (by decide)
        exact ⟨congrArg (fun z => some (Value.int z)) ((show (own_tp x k0 k1 k2 k3 k4 k5 k6) = (2 : Int32) from ((if_pos hc43).trans ((if_neg hc43_1).trans ((if_pos hc43_2).trans rfl)))).trans (by rfl : (2 : Int32) = (2 : Int32))).symm, e11⟩
      · skip
        refine own_go (mkF m 46 #[rv t, jv x, .second, iv (2 : Int32), jv (x - (k2.toInt64)), .second, iv (1 : Int32), iv (3 : Int32)] []) (fun t' k => XS.ifNo X11.here hx rfl (hb hby own_dP_43) rfl ((if0 _ _).trans (flt (fun q => hc43_2 ((lw_gt (k3.toInt64) (x - (k2.toInt64))).mp q))).2.2.1) k) ?_
        refine own_go (mkF m 48 #[rv t, jv x, .second, iv (2 : Int32), jv (x - (k2.toInt64)), .second, iv (1 : Int32), iv (3 : Int32)] [(.int (3 : Int32))]) (fun t' k => XS.iload X11.here hx rfl (hb hby own_dP_46) rfl  k) ?_
        refine own_go (mkF m 49 #[rv t, jv x, .second, iv (3 : Int32), jv (x - (k2.toInt64)), .second, iv (1 : Int32), iv (3 : Int32)] []) (fun t' k => XS.istoreN X11.here hx rfl (hb hby own_dP_48) rfl (l' := #[rv t, jv x, .second, iv (3 : Int32), jv (x - (k2.toInt64)), .second, iv (1 : Int32), iv (3 : Int32)]) rfl k) ?_
        refine own_go (mkF m 51 #[rv t, jv x, .second, iv (3 : Int32), jv (x - (k2.toInt64)), .second, iv (1 : Int32), iv (3 : Int32)] [(.long (x - (k2.toInt64)))]) (fun t' k => XS.lload X11.here hx rfl (hb hby own_dP_49) rfl  k) ?_
        refine own_go (mkF m 52 #[rv t, jv x, .second, iv (3 : Int32), jv (x - (k2.toInt64)), .second, iv (1 : Int32), iv (3 : Int32)] [(.ref t), (.long (x - (k2.toInt64)))]) (fun t' k => XS.aloadN X11.here hx rfl (hb hby own_dP_51) rfl rfl  k) ?_
        refine X11.getF hx hZ hown (hw _ (List.mem_of_getElem? (i := 21) rfl)) e11 F_counts (hb hby own_dP_52) ?_
        intro T12 X12 e12
        refine own_go (mkF m 57 #[rv t, jv x, .second, iv (3 : Int32), jv (x - (k2.toInt64)), .second, iv (1 : Int32), iv (3 : Int32)] [(.int (3 : Int32)), (.ref bc), (.long (x - (k2.toInt64)))]) (fun t' k => XS.iload X12.here hx rfl (hb hby own_dP_55) rfl  k) ?_
        refine X12.ldI hx hZ e12 A_bc (v := (.int k3)) 3 (by decide) rfl (hb hby own_dP_57) ?_
        refine own_go (mkF m 59 #[rv t, jv x, .second, iv (3 : Int32), jv (x - (k2.toInt64)), .second, iv (1 : Int32), iv (3 : Int32)] [(.long (k3.toInt64)), (.long (x - (k2.toInt64)))]) (fun t' k => XS.i2l X12.here hx rfl (hb hby own_dP_58) rfl k) ?_
        refine own_go (mkF m 60 #[rv t, jv x, .second, iv (3 : Int32), jv (x - (k2.toInt64)), .second, iv (1 : Int32), iv (3 : Int32)] [(.long ((x - (k2.toInt64)) - (k3.toInt64)))]) (fun t' k => XS.lsub X12.here hx rfl (hb hby own_dP_59) rfl k) ?_
        refine own_go (mkF m 62 #[rv t, jv x, .second, iv (3 : Int32), jv ((x - (k2.toInt64)) - (k3.toInt64)), .second, iv (1 : Int32), iv (3 : Int32)] []) (fun t' k => XS.lstore X12.here hx rfl (hb hby own_dP_60) rfl (l' := #[rv t, jv x, .second, iv (3 : Int32), jv ((x - (k2.toInt64)) - (k3.toInt64)), .second, iv (1 : Int32), iv (3 : Int32)]) rfl k) ?_
        refine own_go (mkF m 64 #[rv t, jv x, .second, iv (3 : Int32), jv ((x - (k2.toInt64)) - (k3.toInt64)), .second, iv (1 : Int32), iv (3 : Int32)] [(.int (1 : Int32))]) (fun t' k => XS.iload X12.here hx rfl (hb hby own_dP_62) rfl  k) ?_
        refine own_go (mkF m 65 #[rv t, jv x, .second, iv (3 : Int32), jv ((x - (k2.toInt64)) - (k3.toInt64)), .second, iv (1 : Int32), iv (3 : Int32)] [(.int (1 : Int32)), (.int (1 : Int32))]) (fun t' k => XS.iconst X12.here hx rfl (hb hby own_dP_64) k) ?_
        refine own_go (mkF m 66 #[rv t, jv x, .second, iv (3 : Int32), jv ((x - (k2.toInt64)) - (k3.toInt64)), .second, iv (1 : Int32), iv (3 : Int32)] [(.int (0 : Int32))]) (fun t' k => XS.iushr X12.here hx rfl (hb hby own_dP_65) rfl k) ?_
        refine own_go (mkF m 68 #[rv t, jv x, .second, iv (3 : Int32), jv ((x - (k2.toInt64)) - (k3.toInt64)), .second, iv (0 : Int32), iv (3 : Int32)] []) (fun t' k => XS.istore X12.here hx rfl (hb hby own_dP_66) rfl (l' := #[rv t, jv x, .second, iv (3 : Int32), jv ((x - (k2.toInt64)) - (k3.toInt64)), .second, iv (0 : Int32), iv (3 : Int32)]) rfl k) ?_
        refine own_go (mkF m 11 #[rv t, jv x, .second, iv (3 : Int32), jv ((x - (k2.toInt64)) - (k3.toInt64)), .second, iv (0 : Int32), iv (3 : Int32)] []) (fun t' k => XS.goto X12.here hx rfl (pc0 := 68) (pc' := 11) rfl (hb hby own_dP_68) (by decide) (by decide) k) ?_
        refine own_go (mkF m 13 #[rv t, jv x, .second, iv (3 : Int32), jv ((x - (k2.toInt64)) - (k3.toInt64)), .second, iv (0 : Int32), iv (3 : Int32)] [(.int (0 : Int32))]) (fun t' k => XS.iload X12.here hx rfl (hb hby own_dP_11) rfl  k) ?_
        refine own_go (mkF m 71 #[rv t, jv x, .second, iv (3 : Int32), jv ((x - (k2.toInt64)) - (k3.toInt64)), .second, iv (0 : Int32), iv (3 : Int32)] []) (fun t' k => XS.ifYes X12.here hx rfl (pc0 := 13) (pc' := 71) rfl (hb hby own_dP_13) rfl ((if0 _ _).trans (flt (by decide)).2.2.2) (by decide) (by decide) k) ?_
        refine own_go (mkF m 72 #[rv t, jv x, .second, iv (3 : Int32), jv ((x - (k2.toInt64)) - (k3.toInt64)), .second, iv (0 : Int32), iv (3 : Int32)] [(.int (3 : Int32))]) (fun t' k => XS.iloadN X12.here hx rfl (hb hby own_dP_71) rfl  k) ?_
        refine X12.retI hx hlk hret (hb hby own_dP_72) ?_ (by decide) (by decide)
        exact ⟨congrArg (fun z => some (Value.int z)) ((show (own_tp x k0 k1 k2 k3 k4 k5 k6) = (3 : Int32) from ((if_pos hc43).trans ((if_neg hc43_1).trans ((if_neg hc43_2).trans rfl)))).trans (by rfl : (3 : Int32) = (3 : Int32))).symm, e12⟩
  · skip
    refine own_go (mkF m 46 #[rv t, jv x, .second, iv (0 : Int32), jv x, .second, iv (4 : Int32), iv (4 : Int32)] []) (fun t' k => XS.ifNo X3.here hx rfl (hb hby own_dP_43) rfl ((if0 _ _).trans (flt (fun q => hc43 ((lw_gt (k4.toInt64) x).mp q))).2.2.1) k) ?_
    refine own_go (mkF m 48 #[rv t, jv x, .second, iv (0 : Int32), jv x, .second, iv (4 : Int32), iv (4 : Int32)] [(.int (4 : Int32))]) (fun t' k => XS.iload X3.here hx rfl (hb hby own_dP_46) rfl  k) ?_
    refine own_go (mkF m 49 #[rv t, jv x, .second, iv (4 : Int32), jv x, .second, iv (4 : Int32), iv (4 : Int32)] []) (fun t' k => XS.istoreN X3.here hx rfl (hb hby own_dP_48) rfl (l' := #[rv t, jv x, .second, iv (4 : Int32), jv x, .second, iv (4 : Int32), iv (4 : Int32)]) rfl k) ?_
    refine own_go (mkF m 51 #[rv t, jv x, .second, iv (4 : Int32), jv x, .second, iv (4 : Int32), iv (4 : Int32)] [(.long x)]) (fun t' k => XS.lload X3.here hx rfl (hb hby own_dP_49) rfl  k) ?_
    refine own_go (mkF m 52 #[rv t, jv x, .second, iv (4 : Int32), jv x, .second, iv (4 : Int32), iv (4 : Int32)] [(.ref t), (.long x)]) (fun t' k => XS.aloadN X3.here hx rfl (hb hby own_dP_51) rfl rfl  k) ?_
    refine X3.getF hx hZ hown (hw _ (List.mem_of_getElem? (i := 21) rfl)) e3 F_counts (hb hby own_dP_52) ?_
    intro T13 X13 e13
    refine own_go (mkF m 57 #[rv t, jv x, .second, iv (4 : Int32), jv x, .second, iv (4 : Int32), iv (4 : Int32)] [(.int (4 : Int32)), (.ref bc), (.long x)]) (fun t' k => XS.iload X13.here hx rfl (hb hby own_dP_55) rfl  k) ?_
    refine X13.ldI hx hZ e13 A_bc (v := (.int k4)) 4 (by decide) rfl (hb hby own_dP_57) ?_
    refine own_go (mkF m 59 #[rv t, jv x, .second, iv (4 : Int32), jv x, .second, iv (4 : Int32), iv (4 : Int32)] [(.long (k4.toInt64)), (.long x)]) (fun t' k => XS.i2l X13.here hx rfl (hb hby own_dP_58) rfl k) ?_
    refine own_go (mkF m 60 #[rv t, jv x, .second, iv (4 : Int32), jv x, .second, iv (4 : Int32), iv (4 : Int32)] [(.long (x - (k4.toInt64)))]) (fun t' k => XS.lsub X13.here hx rfl (hb hby own_dP_59) rfl k) ?_
    refine own_go (mkF m 62 #[rv t, jv x, .second, iv (4 : Int32), jv (x - (k4.toInt64)), .second, iv (4 : Int32), iv (4 : Int32)] []) (fun t' k => XS.lstore X13.here hx rfl (hb hby own_dP_60) rfl (l' := #[rv t, jv x, .second, iv (4 : Int32), jv (x - (k4.toInt64)), .second, iv (4 : Int32), iv (4 : Int32)]) rfl k) ?_
    refine own_go (mkF m 64 #[rv t, jv x, .second, iv (4 : Int32), jv (x - (k4.toInt64)), .second, iv (4 : Int32), iv (4 : Int32)] [(.int (4 : Int32))]) (fun t' k => XS.iload X13.here hx rfl (hb hby own_dP_62) rfl  k) ?_
    refine own_go (mkF m 65 #[rv t, jv x, .second, iv (4 : Int32), jv (x - (k4.toInt64)), .second, iv (4 : Int32), iv (4 : Int32)] [(.int (1 : Int32)), (.int (4 : Int32))]) (fun t' k => XS.iconst X13.here hx rfl (hb hby own_dP_64) k) ?_
    refine own_go (mkF m 66 #[rv t, jv x, .second, iv (4 : Int32), jv (x - (k4.toInt64)), .second, iv (4 : Int32), iv (4 : Int32)] [(.int (2 : Int32))]) (fun t' k => XS.iushr X13.here hx rfl (hb hby own_dP_65) rfl k) ?_
    refine own_go (mkF m 68 #[rv t, jv x, .second, iv (4 : Int32), jv (x - (k4.toInt64)), .second, iv (2 : Int32), iv (4 : Int32)] []) (fun t' k => XS.istore X13.here hx rfl (hb hby own_dP_66) rfl (l' := #[rv t, jv x, .second, iv (4 : Int32), jv (x - (k4.toInt64)), .second, iv (2 : Int32), iv (4 : Int32)]) rfl k) ?_
    refine own_go (mkF m 11 #[rv t, jv x, .second, iv (4 : Int32), jv (x - (k4.toInt64)), .second, iv (2 : Int32), iv (4 : Int32)] []) (fun t' k => XS.goto X13.here hx rfl (pc0 := 68) (pc' := 11) rfl (hb hby own_dP_68) (by decide) (by decide) k) ?_
    refine own_go (mkF m 13 #[rv t, jv x, .second, iv (4 : Int32), jv (x - (k4.toInt64)), .second, iv (2 : Int32), iv (4 : Int32)] [(.int (2 : Int32))]) (fun t' k => XS.iload X13.here hx rfl (hb hby own_dP_11) rfl  k) ?_
    refine own_go (mkF m 16 #[rv t, jv x, .second, iv (4 : Int32), jv (x - (k4.toInt64)), .second, iv (2 : Int32), iv (4 : Int32)] []) (fun t' k => XS.ifNo X13.here hx rfl (hb hby own_dP_13) rfl ((if0 _ _).trans (tlt (by decide)).2.2.2) k) ?_
    refine own_go (mkF m 17 #[rv t, jv x, .second, iv (4 : Int32), jv (x - (k4.toInt64)), .second, iv (2 : Int32), iv (4 : Int32)] [(.int (4 : Int32))]) (fun t' k => XS.iloadN X13.here hx rfl (hb hby own_dP_16) rfl  k) ?_
    refine own_go (mkF m 19 #[rv t, jv x, .second, iv (4 : Int32), jv (x - (k4.toInt64)), .second, iv (2 : Int32), iv (4 : Int32)] [(.int (2 : Int32)), (.int (4 : Int32))]) (fun t' k => XS.iload X13.here hx rfl (hb hby own_dP_17) rfl  k) ?_
    refine own_go (mkF m 20 #[rv t, jv x, .second, iv (4 : Int32), jv (x - (k4.toInt64)), .second, iv (2 : Int32), iv (4 : Int32)] [(.int (6 : Int32))]) (fun t' k => XS.iadd X13.here hx rfl (hb hby own_dP_19) rfl k) ?_
    refine own_go (mkF m 22 #[rv t, jv x, .second, iv (4 : Int32), jv (x - (k4.toInt64)), .second, iv (2 : Int32), iv (6 : Int32)] []) (fun t' k => XS.istore X13.here hx rfl (hb hby own_dP_20) rfl (l' := #[rv t, jv x, .second, iv (4 : Int32), jv (x - (k4.toInt64)), .second, iv (2 : Int32), iv (6 : Int32)]) rfl k) ?_
    refine own_go (mkF m 24 #[rv t, jv x, .second, iv (4 : Int32), jv (x - (k4.toInt64)), .second, iv (2 : Int32), iv (6 : Int32)] [(.int (6 : Int32))]) (fun t' k => XS.iload X13.here hx rfl (hb hby own_dP_22) rfl  k) ?_
    refine own_go (mkF m 25 #[rv t, jv x, .second, iv (4 : Int32), jv (x - (k4.toInt64)), .second, iv (2 : Int32), iv (6 : Int32)] [(.ref t), (.int (6 : Int32))]) (fun t' k => XS.aloadN X13.here hx rfl (hb hby own_dP_24) rfl rfl  k) ?_
    refine X13.getF hx hZ hown (hw _ (List.mem_of_getElem? (i := 21) rfl)) e13 F_counts (hb hby own_dP_25) ?_
    intro T14 X14 e14
    refine X14.alen hx hZ e14 A_bc (hb hby own_dP_28) ?_
    show own_G p e below s _ _ _ T14 (mkF m 29 #[rv t, jv x, .second, iv (4 : Int32), jv (x - (k4.toInt64)), .second, iv (2 : Int32), iv (6 : Int32)] [(.int (7 : Int32)), (.int (6 : Int32))])
    refine own_go (mkF m 32 #[rv t, jv x, .second, iv (4 : Int32), jv (x - (k4.toInt64)), .second, iv (2 : Int32), iv (6 : Int32)] []) (fun t' k => XS.icmpNo X14.here hx rfl (hb hby own_dP_29) rfl (tlt (by decide)).2.1 k) ?_
    refine own_go (mkF m 33 #[rv t, jv x, .second, iv (4 : Int32), jv (x - (k4.toInt64)), .second, iv (2 : Int32), iv (6 : Int32)] [(.ref t)]) (fun t' k => XS.aloadN X14.here hx rfl (hb hby own_dP_32) rfl rfl  k) ?_
    refine X14.getF hx hZ hown (hw _ (List.mem_of_getElem? (i := 21) rfl)) e14 F_counts (hb hby own_dP_33) ?_
    intro T15 X15 e15
    refine own_go (mkF m 38 #[rv t, jv x, .second, iv (4 : Int32), jv (x - (k4.toInt64)), .second, iv (2 : Int32), iv (6 : Int32)] [(.int (6 : Int32)), (.ref bc)]) (fun t' k => XS.iload X15.here hx rfl (hb hby own_dP_36) rfl  k) ?_
    refine X15.ldI hx hZ e15 A_bc (v := (.int k6)) 6 (by decide) rfl (hb hby own_dP_38) ?_
    refine own_go (mkF m 40 #[rv t, jv x, .second, iv (4 : Int32), jv (x - (k4.toInt64)), .second, iv (2 : Int32), iv (6 : Int32)] [(.long (k6.toInt64))]) (fun t' k => XS.i2l X15.here hx rfl (hb hby own_dP_39) rfl k) ?_
    refine own_go (mkF m 42 #[rv t, jv x, .second, iv (4 : Int32), jv (x - (k4.toInt64)), .second, iv (2 : Int32), iv (6 : Int32)] [(.long (x - (k4.toInt64))), (.long (k6.toInt64))]) (fun t' k => XS.lload X15.here hx rfl (hb hby own_dP_40) rfl  k) ?_
    refine own_go (mkF m 43 #[rv t, jv x, .second, iv (4 : Int32), jv (x - (k4.toInt64)), .second, iv (2 : Int32), iv (6 : Int32)] [(.int (lcmpW (k6.toInt64) (x - (k4.toInt64))))]) (fun t' k => XS.lcmp X15.here hx rfl (hb hby own_dP_42) rfl k) ?_
    by_cases hc43_1 : (x - (k4.toInt64)) < (k6.toInt64)
    · skip
      refine own_go (mkF m 62 #[rv t, jv x, .second, iv (4 : Int32), jv (x - (k4.toInt64)), .second, iv (2 : Int32), iv (6 : Int32)] []) (fun t' k => XS.ifYes X15.here hx rfl (pc0 := 43) (pc' := 62) rfl (hb hby own_dP_43) rfl ((if0 _ _).trans (tlt ((lw_gt (k6.toInt64) (x - (k4.toInt64))).mpr hc43_1)).2.2.1) (by decide) (by decide) k) ?_
      refine own_go (mkF m 64 #[rv t, jv x, .second, iv (4 : Int32), jv (x - (k4.toInt64)), .second, iv (2 : Int32), iv (6 : Int32)] [(.int (2 : Int32))]) (fun t' k => XS.iload X15.here hx rfl (hb hby own_dP_62) rfl  k) ?_
      refine own_go (mkF m 65 #[rv t, jv x, .second, iv (4 : Int32), jv (x - (k4.toInt64)), .second, iv (2 : Int32), iv (6 : Int32)] [(.int (1 : Int32)), (.int (2 : Int32))]) (fun t' k => XS.iconst X15.here hx rfl (hb hby own_dP_64) k) ?_
      refine own_go (mkF m 66 #[rv t, jv x, .second, iv (4 : Int32), jv (x - (k4.toInt64)), .second, iv (2 : Int32), iv (6 : Int32)] [(.int (1 : Int32))]) (fun t' k => XS.iushr X15.here hx rfl (hb hby own_dP_65) rfl k) ?_
      refine own_go (mkF m 68 #[rv t, jv x, .second, iv (4 : Int32), jv (x - (k4.toInt64)), .second, iv (1 : Int32), iv (6 : Int32)] []) (fun t' k => XS.istore X15.here hx rfl (hb hby own_dP_66) rfl (l' := #[rv t, jv x, .second, iv (4 : Int32), jv (x - (k4.toInt64)), .second, iv (1 : Int32), iv (6 : Int32)]) rfl k) ?_
      refine own_go (mkF m 11 #[rv t, jv x, .second, iv (4 : Int32), jv (x - (k4.toInt64)), .second, iv (1 : Int32), iv (6 : Int32)] []) (fun t' k => XS.goto X15.here hx rfl (pc0 := 68) (pc' := 11) rfl (hb hby own_dP_68) (by decide) (by decide) k) ?_
      refine own_go (mkF m 13 #[rv t, jv x, .second, iv (4 : Int32), jv (x - (k4.toInt64)), .second, iv (1 : Int32), iv (6 : Int32)] [(.int (1 : Int32))]) (fun t' k => XS.iload X15.here hx rfl (hb hby own_dP_11) rfl  k) ?_
      refine own_go (mkF m 16 #[rv t, jv x, .second, iv (4 : Int32), jv (x - (k4.toInt64)), .second, iv (1 : Int32), iv (6 : Int32)] []) (fun t' k => XS.ifNo X15.here hx rfl (hb hby own_dP_13) rfl ((if0 _ _).trans (tlt (by decide)).2.2.2) k) ?_
      refine own_go (mkF m 17 #[rv t, jv x, .second, iv (4 : Int32), jv (x - (k4.toInt64)), .second, iv (1 : Int32), iv (6 : Int32)] [(.int (4 : Int32))]) (fun t' k => XS.iloadN X15.here hx rfl (hb hby own_dP_16) rfl  k) ?_
      refine own_go (mkF m 19 #[rv t, jv x, .second, iv (4 : Int32), jv (x - (k4.toInt64)), .second, iv (1 : Int32), iv (6 : Int32)] [(.int (1 : Int32)), (.int (4 : Int32))]) (fun t' k => XS.iload X15.here hx rfl (hb hby own_dP_17) rfl  k) ?_
      refine own_go (mkF m 20 #[rv t, jv x, .second, iv (4 : Int32), jv (x - (k4.toInt64)), .second, iv (1 : Int32), iv (6 : Int32)] [(.int (5 : Int32))]) (fun t' k => XS.iadd X15.here hx rfl (hb hby own_dP_19) rfl k) ?_
      refine own_go (mkF m 22 #[rv t, jv x, .second, iv (4 : Int32), jv (x - (k4.toInt64)), .second, iv (1 : Int32), iv (5 : Int32)] []) (fun t' k => XS.istore X15.here hx rfl (hb hby own_dP_20) rfl (l' := #[rv t, jv x, .second, iv (4 : Int32), jv (x - (k4.toInt64)), .second, iv (1 : Int32), iv (5 : Int32)]) rfl k) ?_
      refine own_go (mkF m 24 #[rv t, jv x, .second, iv (4 : Int32), jv (x - (k4.toInt64)), .second, iv (1 : Int32), iv (5 : Int32)] [(.int (5 : Int32))]) (fun t' k => XS.iload X15.here hx rfl (hb hby own_dP_22) rfl  k) ?_
      refine own_go (mkF m 25 #[rv t, jv x, .second, iv (4 : Int32), jv (x - (k4.toInt64)), .second, iv (1 : Int32), iv (5 : Int32)] [(.ref t), (.int (5 : Int32))]) (fun t' k => XS.aloadN X15.here hx rfl (hb hby own_dP_24) rfl rfl  k) ?_
      refine X15.getF hx hZ hown (hw _ (List.mem_of_getElem? (i := 21) rfl)) e15 F_counts (hb hby own_dP_25) ?_
      intro T16 X16 e16
      refine X16.alen hx hZ e16 A_bc (hb hby own_dP_28) ?_
      show own_G p e below s _ _ _ T16 (mkF m 29 #[rv t, jv x, .second, iv (4 : Int32), jv (x - (k4.toInt64)), .second, iv (1 : Int32), iv (5 : Int32)] [(.int (7 : Int32)), (.int (5 : Int32))])
      refine own_go (mkF m 32 #[rv t, jv x, .second, iv (4 : Int32), jv (x - (k4.toInt64)), .second, iv (1 : Int32), iv (5 : Int32)] []) (fun t' k => XS.icmpNo X16.here hx rfl (hb hby own_dP_29) rfl (tlt (by decide)).2.1 k) ?_
      refine own_go (mkF m 33 #[rv t, jv x, .second, iv (4 : Int32), jv (x - (k4.toInt64)), .second, iv (1 : Int32), iv (5 : Int32)] [(.ref t)]) (fun t' k => XS.aloadN X16.here hx rfl (hb hby own_dP_32) rfl rfl  k) ?_
      refine X16.getF hx hZ hown (hw _ (List.mem_of_getElem? (i := 21) rfl)) e16 F_counts (hb hby own_dP_33) ?_
      intro T17 X17 e17
      refine own_go (mkF m 38 #[rv t, jv x, .second, iv (4 : Int32), jv (x - (k4.toInt64)), .second, iv (1 : Int32), iv (5 : Int32)] [(.int (5 : Int32)), (.ref bc)]) (fun t' k => XS.iload X17.here hx rfl (hb hby own_dP_36) rfl  k) ?_
      refine X17.ldI hx hZ e17 A_bc (v := (.int k5)) 5 (by decide) rfl (hb hby own_dP_38) ?_
      refine own_go (mkF m 40 #[rv t, jv x, .second, iv (4 : Int32), jv (x - (k4.toInt64)), .second, iv (1 : Int32), iv (5 : Int32)] [(.long (k5.toInt64))]) (fun t' k => XS.i2l X17.here hx rfl (hb hby own_dP_39) rfl k) ?_
      refine own_go (mkF m 42 #[rv t, jv x, .second, iv (4 : Int32), jv (x - (k4.toInt64)), .second, iv (1 : Int32), iv (5 : Int32)] [(.long (x - (k4.toInt64))), (.long (k5.toInt64))]) (fun t' k => XS.lload X17.here hx rfl (hb hby own_dP_40) rfl  k) ?_
      refine own_go (mkF m 43 #[rv t, jv x, .second, iv (4 : Int32), jv (x - (k4.toInt64)), .second, iv (1 : Int32), iv (5 : Int32)] [(.int (lcmpW (k5.toInt64) (x - (k4.toInt64))))]) (fun t' k => XS.lcmp X17.here hx rfl (hb hby own_dP_42) rfl k) ?_
      by_cases hc43_2 : (x - (k4.toInt64)) < (k5.toInt64)
      · skip
        refine own_go (mkF m 62 #[rv t, jv x, .second, iv (4 : Int32), jv (x - (k4.toInt64)), .second, iv (1 : Int32), iv (5 : Int32)] []) (fun t' k => XS.ifYes X17.here hx rfl (pc0 := 43) (pc' := 62) rfl (hb hby own_dP_43) rfl ((if0 _ _).trans (tlt ((lw_gt (k5.toInt64) (x - (k4.toInt64))).mpr hc43_2)).2.2.1) (by decide) (by decide) k) ?_
        refine own_go (mkF m 64 #[rv t, jv x, .second, iv (4 : Int32), jv (x - (k4.toInt64)), .second, iv (1 : Int32), iv (5 : Int32)] [(.int (1 : Int32))]) (fun t' k => XS.iload X17.here hx rfl (hb hby own_dP_62) rfl  k) ?_
        refine own_go (mkF m 65 #[rv t, jv x, .second, iv (4 : Int32), jv (x - (k4.toInt64)), .second, iv (1 : Int32), iv (5 : Int32)] [(.int (1 : Int32)), (.int (1 : Int32))]) (fun t' k => XS.iconst X17.here hx rfl (hb hby own_dP_64) k) ?_
        refine own_go (mkF m 66 #[rv t, jv x, .second, iv (4 : Int32), jv (x - (k4.toInt64)), .second, iv (1 : Int32), iv (5 : Int32)] [(.int (0 : Int32))]) (fun t' k => XS.iushr X17.here hx rfl (hb hby own_dP_65) rfl k) ?_
        refine own_go (mkF m 68 #[rv t, jv x, .second, iv (4 : Int32), jv (x - (k4.toInt64)), .second, iv (0 : Int32), iv (5 : Int32)] []) (fun t' k => XS.istore X17.here hx rfl (hb hby own_dP_66) rfl (l' := #[rv t, jv x, .second, iv (4 : Int32), jv (x - (k4.toInt64)), .second, iv (0 : Int32), iv (5 : Int32)]) rfl k) ?_
        refine own_go (mkF m 11 #[rv t, jv x, .second, iv (4 : Int32), jv (x - (k4.toInt64)), .second, iv (0 : Int32), iv (5 : Int32)] []) (fun t' k => XS.goto X17.here hx rfl (pc0 := 68) (pc' := 11) rfl (hb hby own_dP_68) (by decide) (by decide) k) ?_
        refine own_go (mkF m 13 #[rv t, jv x, .second, iv (4 : Int32), jv (x - (k4.toInt64)), .second, iv (0 : Int32), iv (5 : Int32)] [(.int (0 : Int32))]) (fun t' k => XS.iload X17.here hx rfl (hb hby own_dP_11) rfl  k) ?_
        refine own_go (mkF m 71 #[rv t, jv x, .second, iv (4 : Int32), jv (x - (k4.toInt64)), .second, iv (0 : Int32), iv (5 : Int32)] []) (fun t' k => XS.ifYes X17.here hx rfl (pc0 := 13) (pc' := 71) rfl (hb hby own_dP_13) rfl ((if0 _ _).trans (flt (by decide)).2.2.2) (by decide) (by decide) k) ?_
        refine own_go (mkF m 72 #[rv t, jv x, .second, iv (4 : Int32), jv (x - (k4.toInt64)), .second, iv (0 : Int32), iv (5 : Int32)] [(.int (4 : Int32))]) (fun t' k => XS.iloadN X17.here hx rfl (hb hby own_dP_71) rfl  k) ?_
        refine X17.retI hx hlk hret (hb hby own_dP_72) ?_ (by decide) (by decide)
        exact ⟨congrArg (fun z => some (Value.int z)) ((show (own_tp x k0 k1 k2 k3 k4 k5 k6) = (4 : Int32) from ((if_neg hc43).trans ((if_pos hc43_1).trans ((if_pos hc43_2).trans rfl)))).trans (by rfl : (4 : Int32) = (4 : Int32))).symm, e17⟩
      · skip
        refine own_go (mkF m 46 #[rv t, jv x, .second, iv (4 : Int32), jv (x - (k4.toInt64)), .second, iv (1 : Int32), iv (5 : Int32)] []) (fun t' k => XS.ifNo X17.here hx rfl (hb hby own_dP_43) rfl ((if0 _ _).trans (flt (fun q => hc43_2 ((lw_gt (k5.toInt64) (x - (k4.toInt64))).mp q))).2.2.1) k) ?_
        refine own_go (mkF m 48 #[rv t, jv x, .second, iv (4 : Int32), jv (x - (k4.toInt64)), .second, iv (1 : Int32), iv (5 : Int32)] [(.int (5 : Int32))]) (fun t' k => XS.iload X17.here hx rfl (hb hby own_dP_46) rfl  k) ?_
        refine own_go (mkF m 49 #[rv t, jv x, .second, iv (5 : Int32), jv (x - (k4.toInt64)), .second, iv (1 : Int32), iv (5 : Int32)] []) (fun t' k => XS.istoreN X17.here hx rfl (hb hby own_dP_48) rfl (l' := #[rv t, jv x, .second, iv (5 : Int32), jv (x - (k4.toInt64)), .second, iv (1 : Int32), iv (5 : Int32)]) rfl k) ?_
        refine own_go (mkF m 51 #[rv t, jv x, .second, iv (5 : Int32), jv (x - (k4.toInt64)), .second, iv (1 : Int32), iv (5 : Int32)] [(.long (x - (k4.toInt64)))]) (fun t' k => XS.lload X17.here hx rfl (hb hby own_dP_49) rfl  k) ?_
        refine own_go (mkF m 52 #[rv t, jv x, .second, iv (5 : Int32), jv (x - (k4.toInt64)), .second, iv (1 : Int32), iv (5 : Int32)] [(.ref t), (.long (x - (k4.toInt64)))]) (fun t' k => XS.aloadN X17.here hx rfl (hb hby own_dP_51) rfl rfl  k) ?_
        refine X17.getF hx hZ hown (hw _ (List.mem_of_getElem? (i := 21) rfl)) e17 F_counts (hb hby own_dP_52) ?_
        intro T18 X18 e18
        refine own_go (mkF m 57 #[rv t, jv x, .second, iv (5 : Int32), jv (x - (k4.toInt64)), .second, iv (1 : Int32), iv (5 : Int32)] [(.int (5 : Int32)), (.ref bc), (.long (x - (k4.toInt64)))]) (fun t' k => XS.iload X18.here hx rfl (hb hby own_dP_55) rfl  k) ?_
        refine X18.ldI hx hZ e18 A_bc (v := (.int k5)) 5 (by decide) rfl (hb hby own_dP_57) ?_
        refine own_go (mkF m 59 #[rv t, jv x, .second, iv (5 : Int32), jv (x - (k4.toInt64)), .second, iv (1 : Int32), iv (5 : Int32)] [(.long (k5.toInt64)), (.long (x - (k4.toInt64)))]) (fun t' k => XS.i2l X18.here hx rfl (hb hby own_dP_58) rfl k) ?_
        refine own_go (mkF m 60 #[rv t, jv x, .second, iv (5 : Int32), jv (x - (k4.toInt64)), .second, iv (1 : Int32), iv (5 : Int32)] [(.long ((x - (k4.toInt64)) - (k5.toInt64)))]) (fun t' k => XS.lsub X18.here hx rfl (hb hby own_dP_59) rfl k) ?_
        refine own_go (mkF m 62 #[rv t, jv x, .second, iv (5 : Int32), jv ((x - (k4.toInt64)) - (k5.toInt64)), .second, iv (1 : Int32), iv (5 : Int32)] []) (fun t' k => XS.lstore X18.here hx rfl (hb hby own_dP_60) rfl (l' := #[rv t, jv x, .second, iv (5 : Int32), jv ((x - (k4.toInt64)) - (k5.toInt64)), .second, iv (1 : Int32), iv (5 : Int32)]) rfl k) ?_
        refine own_go (mkF m 64 #[rv t, jv x, .second, iv (5 : Int32), jv ((x - (k4.toInt64)) - (k5.toInt64)), .second, iv (1 : Int32), iv (5 : Int32)] [(.int (1 : Int32))]) (fun t' k => XS.iload X18.here hx rfl (hb hby own_dP_62) rfl  k) ?_
        refine own_go (mkF m 65 #[rv t, jv x, .second, iv (5 : Int32), jv ((x - (k4.toInt64)) - (k5.toInt64)), .second, iv (1 : Int32), iv (5 : Int32)] [(.int (1 : Int32)), (.int (1 : Int32))]) (fun t' k => XS.iconst X18.here hx rfl (hb hby own_dP_64) k) ?_
        refine own_go (mkF m 66 #[rv t, jv x, .second, iv (5 : Int32), jv ((x - (k4.toInt64)) - (k5.toInt64)), .second, iv (1 : Int32), iv (5 : Int32)] [(.int (0 : Int32))]) (fun t' k => XS.iushr X18.here hx rfl (hb hby own_dP_65) rfl k) ?_
        refine own_go (mkF m 68 #[rv t, jv x, .second, iv (5 : Int32), jv ((x - (k4.toInt64)) - (k5.toInt64)), .second, iv (0 : Int32), iv (5 : Int32)] []) (fun t' k => XS.istore X18.here hx rfl (hb hby own_dP_66) rfl (l' := #[rv t, jv x, .second, iv (5 : Int32), jv ((x - (k4.toInt64)) - (k5.toInt64)), .second, iv (0 : Int32), iv (5 : Int32)]) rfl k) ?_
        refine own_go (mkF m 11 #[rv t, jv x, .second, iv (5 : Int32), jv ((x - (k4.toInt64)) - (k5.toInt64)), .second, iv (0 : Int32), iv (5 : Int32)] []) (fun t' k => XS.goto X18.here hx rfl (pc0 := 68) (pc' := 11) rfl (hb hby own_dP_68) (by decide) (by decide) k) ?_
        refine own_go (mkF m 13 #[rv t, jv x, .second, iv (5 : Int32), jv ((x - (k4.toInt64)) - (k5.toInt64)), .second, iv (0 : Int32), iv (5 : Int32)] [(.int (0 : Int32))]) (fun t' k => XS.iload X18.here hx rfl (hb hby own_dP_11) rfl  k) ?_
        refine own_go (mkF m 71 #[rv t, jv x, .second, iv (5 : Int32), jv ((x - (k4.toInt64)) - (k5.toInt64)), .second, iv (0 : Int32), iv (5 : Int32)] []) (fun t' k => XS.ifYes X18.here hx rfl (pc0 := 13) (pc' := 71) rfl (hb hby own_dP_13) rfl ((if0 _ _).trans (flt (by decide)).2.2.2) (by decide) (by decide) k) ?_
        refine own_go (mkF m 72 #[rv t, jv x, .second, iv (5 : Int32), jv ((x - (k4.toInt64)) - (k5.toInt64)), .second, iv (0 : Int32), iv (5 : Int32)] [(.int (5 : Int32))]) (fun t' k => XS.iloadN X18.here hx rfl (hb hby own_dP_71) rfl  k) ?_
        refine X18.retI hx hlk hret (hb hby own_dP_72) ?_ (by decide) (by decide)
        exact ⟨congrArg (fun z => some (Value.int z)) ((show (own_tp x k0 k1 k2 k3 k4 k5 k6) = (5 : Int32) from ((if_neg hc43).trans ((if_pos hc43_1).trans ((if_neg hc43_2).trans rfl)))).trans (by rfl : (5 : Int32) = (5 : Int32))).symm, e18⟩
    · skip
      refine own_go (mkF m 46 #[rv t, jv x, .second, iv (4 : Int32), jv (x - (k4.toInt64)), .second, iv (2 : Int32), iv (6 : Int32)] []) (fun t' k => XS.ifNo X15.here hx rfl (hb hby own_dP_43) rfl ((if0 _ _).trans (flt (fun q => hc43_1 ((lw_gt (k6.toInt64) (x - (k4.toInt64))).mp q))).2.2.1) k) ?_
      refine own_go (mkF m 48 #[rv t, jv x, .second, iv (4 : Int32), jv (x - (k4.toInt64)), .second, iv (2 : Int32), iv (6 : Int32)] [(.int (6 : Int32))]) (fun t' k => XS.iload X15.here hx rfl (hb hby own_dP_46) rfl  k) ?_
      refine own_go (mkF m 49 #[rv t, jv x, .second, iv (6 : Int32), jv (x - (k4.toInt64)), .second, iv (2 : Int32), iv (6 : Int32)] []) (fun t' k => XS.istoreN X15.here hx rfl (hb hby own_dP_48) rfl (l' := #[rv t, jv x, .second, iv (6 : Int32), jv (x - (k4.toInt64)), .second, iv (2 : Int32), iv (6 : Int32)]) rfl k) ?_
      refine own_go (mkF m 51 #[rv t, jv x, .second, iv (6 : Int32), jv (x - (k4.toInt64)), .second, iv (2 : Int32), iv (6 : Int32)] [(.long (x - (k4.toInt64)))]) (fun t' k => XS.lload X15.here hx rfl (hb hby own_dP_49) rfl  k) ?_
      refine own_go (mkF m 52 #[rv t, jv x, .second, iv (6 : Int32), jv (x - (k4.toInt64)), .second, iv (2 : Int32), iv (6 : Int32)] [(.ref t), (.long (x - (k4.toInt64)))]) (fun t' k => XS.aloadN X15.here hx rfl (hb hby own_dP_51) rfl rfl  k) ?_
      refine X15.getF hx hZ hown (hw _ (List.mem_of_getElem? (i := 21) rfl)) e15 F_counts (hb hby own_dP_52) ?_
      intro T19 X19 e19
      refine own_go (mkF m 57 #[rv t, jv x, .second, iv (6 : Int32), jv (x - (k4.toInt64)), .second, iv (2 : Int32), iv (6 : Int32)] [(.int (6 : Int32)), (.ref bc), (.long (x - (k4.toInt64)))]) (fun t' k => XS.iload X19.here hx rfl (hb hby own_dP_55) rfl  k) ?_
      refine X19.ldI hx hZ e19 A_bc (v := (.int k6)) 6 (by decide) rfl (hb hby own_dP_57) ?_
      refine own_go (mkF m 59 #[rv t, jv x, .second, iv (6 : Int32), jv (x - (k4.toInt64)), .second, iv (2 : Int32), iv (6 : Int32)] [(.long (k6.toInt64)), (.long (x - (k4.toInt64)))]) (fun t' k => XS.i2l X19.here hx rfl (hb hby own_dP_58) rfl k) ?_
      refine own_go (mkF m 60 #[rv t, jv x, .second, iv (6 : Int32), jv (x - (k4.toInt64)), .second, iv (2 : Int32), iv (6 : Int32)] [(.long ((x - (k4.toInt64)) - (k6.toInt64)))]) (fun t' k => XS.lsub X19.here hx rfl (hb hby own_dP_59) rfl k) ?_
      refine own_go (mkF m 62 #[rv t, jv x, .second, iv (6 : Int32), jv ((x - (k4.toInt64)) - (k6.toInt64)), .second, iv (2 : Int32), iv (6 : Int32)] []) (fun t' k => XS.lstore X19.here hx rfl (hb hby own_dP_60) rfl (l' := #[rv t, jv x, .second, iv (6 : Int32), jv ((x - (k4.toInt64)) - (k6.toInt64)), .second, iv (2 : Int32), iv (6 : Int32)]) rfl k) ?_
      refine own_go (mkF m 64 #[rv t, jv x, .second, iv (6 : Int32), jv ((x - (k4.toInt64)) - (k6.toInt64)), .second, iv (2 : Int32), iv (6 : Int32)] [(.int (2 : Int32))]) (fun t' k => XS.iload X19.here hx rfl (hb hby own_dP_62) rfl  k) ?_
      refine own_go (mkF m 65 #[rv t, jv x, .second, iv (6 : Int32), jv ((x - (k4.toInt64)) - (k6.toInt64)), .second, iv (2 : Int32), iv (6 : Int32)] [(.int (1 : Int32)), (.int (2 : Int32))]) (fun t' k => XS.iconst X19.here hx rfl (hb hby own_dP_64) k) ?_
      refine own_go (mkF m 66 #[rv t, jv x, .second, iv (6 : Int32), jv ((x - (k4.toInt64)) - (k6.toInt64)), .second, iv (2 : Int32), iv (6 : Int32)] [(.int (1 : Int32))]) (fun t' k => XS.iushr X19.here hx rfl (hb hby own_dP_65) rfl k) ?_
      refine own_go (mkF m 68 #[rv t, jv x, .second, iv (6 : Int32), jv ((x - (k4.toInt64)) - (k6.toInt64)), .second, iv (1 : Int32), iv (6 : Int32)] []) (fun t' k => XS.istore X19.here hx rfl (hb hby own_dP_66) rfl (l' := #[rv t, jv x, .second, iv (6 : Int32), jv ((x - (k4.toInt64)) - (k6.toInt64)), .second, iv (1 : Int32), iv (6 : Int32)]) rfl k) ?_
      refine own_go (mkF m 11 #[rv t, jv x, .second, iv (6 : Int32), jv ((x - (k4.toInt64)) - (k6.toInt64)), .second, iv (1 : Int32), iv (6 : Int32)] []) (fun t' k => XS.goto X19.here hx rfl (pc0 := 68) (pc' := 11) rfl (hb hby own_dP_68) (by decide) (by decide) k) ?_
      refine own_go (mkF m 13 #[rv t, jv x, .second, iv (6 : Int32), jv ((x - (k4.toInt64)) - (k6.toInt64)), .second, iv (1 : Int32), iv (6 : Int32)] [(.int (1 : Int32))]) (fun t' k => XS.iload X19.here hx rfl (hb hby own_dP_11) rfl  k) ?_
      refine own_go (mkF m 16 #[rv t, jv x, .second, iv (6 : Int32), jv ((x - (k4.toInt64)) - (k6.toInt64)), .second, iv (1 : Int32), iv (6 : Int32)] []) (fun t' k => XS.ifNo X19.here hx rfl (hb hby own_dP_13) rfl ((if0 _ _).trans (tlt (by decide)).2.2.2) k) ?_
      refine own_go (mkF m 17 #[rv t, jv x, .second, iv (6 : Int32), jv ((x - (k4.toInt64)) - (k6.toInt64)), .second, iv (1 : Int32), iv (6 : Int32)] [(.int (6 : Int32))]) (fun t' k => XS.iloadN X19.here hx rfl (hb hby own_dP_16) rfl  k) ?_
      refine own_go (mkF m 19 #[rv t, jv x, .second, iv (6 : Int32), jv ((x - (k4.toInt64)) - (k6.toInt64)), .second, iv (1 : Int32), iv (6 : Int32)] [(.int (1 : Int32)), (.int (6 : Int32))]) (fun t' k => XS.iload X19.here hx rfl (hb hby own_dP_17) rfl  k) ?_
      refine own_go (mkF m 20 #[rv t, jv x, .second, iv (6 : Int32), jv ((x - (k4.toInt64)) - (k6.toInt64)), .second, iv (1 : Int32), iv (6 : Int32)] [(.int (7 : Int32))]) (fun t' k => XS.iadd X19.here hx rfl (hb hby own_dP_19) rfl k) ?_
      refine own_go (mkF m 22 #[rv t, jv x, .second, iv (6 : Int32), jv ((x - (k4.toInt64)) - (k6.toInt64)), .second, iv (1 : Int32), iv (7 : Int32)] []) (fun t' k => XS.istore X19.here hx rfl (hb hby own_dP_20) rfl (l' := #[rv t, jv x, .second, iv (6 : Int32), jv ((x - (k4.toInt64)) - (k6.toInt64)), .second, iv (1 : Int32), iv (7 : Int32)]) rfl k) ?_
      refine own_go (mkF m 24 #[rv t, jv x, .second, iv (6 : Int32), jv ((x - (k4.toInt64)) - (k6.toInt64)), .second, iv (1 : Int32), iv (7 : Int32)] [(.int (7 : Int32))]) (fun t' k => XS.iload X19.here hx rfl (hb hby own_dP_22) rfl  k) ?_
      refine own_go (mkF m 25 #[rv t, jv x, .second, iv (6 : Int32), jv ((x - (k4.toInt64)) - (k6.toInt64)), .second, iv (1 : Int32), iv (7 : Int32)] [(.ref t), (.int (7 : Int32))]) (fun t' k => XS.aloadN X19.here hx rfl (hb hby own_dP_24) rfl rfl  k) ?_
      refine X19.getF hx hZ hown (hw _ (List.mem_of_getElem? (i := 21) rfl)) e19 F_counts (hb hby own_dP_25) ?_
      intro T20 X20 e20
      refine X20.alen hx hZ e20 A_bc (hb hby own_dP_28) ?_
      show own_G p e below s _ _ _ T20 (mkF m 29 #[rv t, jv x, .second, iv (6 : Int32), jv ((x - (k4.toInt64)) - (k6.toInt64)), .second, iv (1 : Int32), iv (7 : Int32)] [(.int (7 : Int32)), (.int (7 : Int32))])
      refine own_go (mkF m 62 #[rv t, jv x, .second, iv (6 : Int32), jv ((x - (k4.toInt64)) - (k6.toInt64)), .second, iv (1 : Int32), iv (7 : Int32)] []) (fun t' k => XS.icmpYes X20.here hx rfl (pc0 := 29) (pc' := 62) rfl (hb hby own_dP_29) rfl (flt (by decide)).2.1 (by decide) (by decide) k) ?_
      refine own_go (mkF m 64 #[rv t, jv x, .second, iv (6 : Int32), jv ((x - (k4.toInt64)) - (k6.toInt64)), .second, iv (1 : Int32), iv (7 : Int32)] [(.int (1 : Int32))]) (fun t' k => XS.iload X20.here hx rfl (hb hby own_dP_62) rfl  k) ?_
      refine own_go (mkF m 65 #[rv t, jv x, .second, iv (6 : Int32), jv ((x - (k4.toInt64)) - (k6.toInt64)), .second, iv (1 : Int32), iv (7 : Int32)] [(.int (1 : Int32)), (.int (1 : Int32))]) (fun t' k => XS.iconst X20.here hx rfl (hb hby own_dP_64) k) ?_
      refine own_go (mkF m 66 #[rv t, jv x, .second, iv (6 : Int32), jv ((x - (k4.toInt64)) - (k6.toInt64)), .second, iv (1 : Int32), iv (7 : Int32)] [(.int (0 : Int32))]) (fun t' k => XS.iushr X20.here hx rfl (hb hby own_dP_65) rfl k) ?_
      refine own_go (mkF m 68 #[rv t, jv x, .second, iv (6 : Int32), jv ((x - (k4.toInt64)) - (k6.toInt64)), .second, iv (0 : Int32), iv (7 : Int32)] []) (fun t' k => XS.istore X20.here hx rfl (hb hby own_dP_66) rfl (l' := #[rv t, jv x, .second, iv (6 : Int32), jv ((x - (k4.toInt64)) - (k6.toInt64)), .second, iv (0 : Int32), iv (7 : Int32)]) rfl k) ?_
      refine own_go (mkF m 11 #[rv t, jv x, .second, iv (6 : Int32), jv ((x - (k4.toInt64)) - (k6.toInt64)), .second, iv (0 : Int32), iv (7 : Int32)] []) (fun t' k => XS.goto X20.here hx rfl (pc0 := 68) (pc' := 11) rfl (hb hby own_dP_68) (by decide) (by decide) k) ?_
      refine own_go (mkF m 13 #[rv t, jv x, .second, iv (6 : Int32), jv ((x - (k4.toInt64)) - (k6.toInt64)), .second, iv (0 : Int32), iv (7 : Int32)] [(.int (0 : Int32))]) (fun t' k => XS.iload X20.here hx rfl (hb hby own_dP_11) rfl  k) ?_
      refine own_go (mkF m 71 #[rv t, jv x, .second, iv (6 : Int32), jv ((x - (k4.toInt64)) - (k6.toInt64)), .second, iv (0 : Int32), iv (7 : Int32)] []) (fun t' k => XS.ifYes X20.here hx rfl (pc0 := 13) (pc' := 71) rfl (hb hby own_dP_13) rfl ((if0 _ _).trans (flt (by decide)).2.2.2) (by decide) (by decide) k) ?_
      refine own_go (mkF m 72 #[rv t, jv x, .second, iv (6 : Int32), jv ((x - (k4.toInt64)) - (k6.toInt64)), .second, iv (0 : Int32), iv (7 : Int32)] [(.int (6 : Int32))]) (fun t' k => XS.iloadN X20.here hx rfl (hb hby own_dP_71) rfl  k) ?_
      refine X20.retI hx hlk hret (hb hby own_dP_72) ?_ (by decide) (by decide)
      exact ⟨congrArg (fun z => some (Value.int z)) ((show (own_tp x k0 k1 k2 k3 k4 k5 k6) = (6 : Int32) from ((if_neg hc43).trans ((if_neg hc43_1).trans rfl))).trans (by rfl : (6 : Int32) = (6 : Int32))).symm, e20⟩

theorem own_sn_WeightTree_weights_climbsBetweenRebases {Z : State} {a0 : Array Value} (hw : ∀ d ∈ tables_1, d.before a0 Z = true) : Jvm.RoadKit.slotOf Z "com/example/load_across_peers/loadacrosspeers/internal/pick/WeightTree" "weights" "[J" ≠ Jvm.RoadKit.slotOf Z "com/example/load_across_peers/loadacrosspeers/internal/pick/WeightTree" "climbsBetweenRebases" "J" := slot_ne (Or.inr (hw _ (List.mem_of_getElem? (i := 14) rfl))) (Or.inr (hw _ (List.mem_of_getElem? (i := 12) rfl))) (by decide) (t := (.array .long)) (t' := .long) (by decide) (by decide)
theorem own_sn_WeightTree_present_climbsBetweenRebases {Z : State} {a0 : Array Value} (hw : ∀ d ∈ tables_1, d.before a0 Z = true) : Jvm.RoadKit.slotOf Z "com/example/load_across_peers/loadacrosspeers/internal/pick/WeightTree" "present" "[Z" ≠ Jvm.RoadKit.slotOf Z "com/example/load_across_peers/loadacrosspeers/internal/pick/WeightTree" "climbsBetweenRebases" "J" := slot_ne (Or.inr (hw _ (List.mem_of_getElem? (i := 17) rfl))) (Or.inr (hw _ (List.mem_of_getElem? (i := 12) rfl))) (by decide) (t := (.array .boolean)) (t' := .long) (by decide) (by decide)
theorem own_sn_WeightTree_sums_climbsBetweenRebases {Z : State} {a0 : Array Value} (hw : ∀ d ∈ tables_1, d.before a0 Z = true) : Jvm.RoadKit.slotOf Z "com/example/load_across_peers/loadacrosspeers/internal/pick/WeightTree" "sums" "[J" ≠ Jvm.RoadKit.slotOf Z "com/example/load_across_peers/loadacrosspeers/internal/pick/WeightTree" "climbsBetweenRebases" "J" := slot_ne (Or.inr (hw _ (List.mem_of_getElem? (i := 19) rfl))) (Or.inr (hw _ (List.mem_of_getElem? (i := 12) rfl))) (by decide) (t := (.array .long)) (t' := .long) (by decide) (by decide)
theorem own_sn_WeightTree_counts_climbsBetweenRebases {Z : State} {a0 : Array Value} (hw : ∀ d ∈ tables_1, d.before a0 Z = true) : Jvm.RoadKit.slotOf Z "com/example/load_across_peers/loadacrosspeers/internal/pick/WeightTree" "counts" "[I" ≠ Jvm.RoadKit.slotOf Z "com/example/load_across_peers/loadacrosspeers/internal/pick/WeightTree" "climbsBetweenRebases" "J" := slot_ne (Or.inr (hw _ (List.mem_of_getElem? (i := 22) rfl))) (Or.inr (hw _ (List.mem_of_getElem? (i := 12) rfl))) (by decide) (t := (.array .int)) (t' := .long) (by decide) (by decide)
theorem own_sn_WeightTree_top_climbsBetweenRebases {Z : State} {a0 : Array Value} (hw : ∀ d ∈ tables_1, d.before a0 Z = true) : Jvm.RoadKit.slotOf Z "com/example/load_across_peers/loadacrosspeers/internal/pick/WeightTree" "top" "I" ≠ Jvm.RoadKit.slotOf Z "com/example/load_across_peers/loadacrosspeers/internal/pick/WeightTree" "climbsBetweenRebases" "J" := slot_ne (Or.inr (hw _ (List.mem_of_getElem? (i := 33) rfl))) (Or.inr (hw _ (List.mem_of_getElem? (i := 12) rfl))) (by decide) (t := .int) (t' := .long) (by decide) (by decide)
theorem own_sn_WeightTree_total_climbsBetweenRebases {Z : State} {a0 : Array Value} (hw : ∀ d ∈ tables_1, d.before a0 Z = true) : Jvm.RoadKit.slotOf Z "com/example/load_across_peers/loadacrosspeers/internal/pick/WeightTree" "total" "J" ≠ Jvm.RoadKit.slotOf Z "com/example/load_across_peers/loadacrosspeers/internal/pick/WeightTree" "climbsBetweenRebases" "J" := slot_ne (Or.inl (hw _ (List.mem_of_getElem? (i := 35) rfl))) (Or.inr (hw _ (List.mem_of_getElem? (i := 12) rfl))) (by decide) (t := .long) (t' := .long) (by decide) (by decide)
theorem own_sn_WeightTree_taking_climbsBetweenRebases {Z : State} {a0 : Array Value} (hw : ∀ d ∈ tables_1, d.before a0 Z = true) : Jvm.RoadKit.slotOf Z "com/example/load_across_peers/loadacrosspeers/internal/pick/WeightTree" "taking" "I" ≠ Jvm.RoadKit.slotOf Z "com/example/load_across_peers/loadacrosspeers/internal/pick/WeightTree" "climbsBetweenRebases" "J" := slot_ne (Or.inl (hw _ (List.mem_of_getElem? (i := 37) rfl))) (Or.inr (hw _ (List.mem_of_getElem? (i := 12) rfl))) (by decide) (t := .int) (t' := .long) (by decide) (by decide)
theorem own_sn_WeightTree_rising_climbsBetweenRebases {Z : State} {a0 : Array Value} (hw : ∀ d ∈ tables_1, d.before a0 Z = true) : Jvm.RoadKit.slotOf Z "com/example/load_across_peers/loadacrosspeers/internal/pick/WeightTree" "rising" "[Z" ≠ Jvm.RoadKit.slotOf Z "com/example/load_across_peers/loadacrosspeers/internal/pick/WeightTree" "climbsBetweenRebases" "J" := slot_ne (Or.inl (hw _ (List.mem_of_getElem? (i := 54) rfl))) (Or.inr (hw _ (List.mem_of_getElem? (i := 12) rfl))) (by decide) (t := (.array .boolean)) (t' := .long) (by decide) (by decide)
theorem own_sn_WeightTree_risingCount_climbsBetweenRebases {Z : State} {a0 : Array Value} (hw : ∀ d ∈ tables_1, d.before a0 Z = true) : Jvm.RoadKit.slotOf Z "com/example/load_across_peers/loadacrosspeers/internal/pick/WeightTree" "risingCount" "J" ≠ Jvm.RoadKit.slotOf Z "com/example/load_across_peers/loadacrosspeers/internal/pick/WeightTree" "climbsBetweenRebases" "J" := slot_ne (Or.inl (hw _ (List.mem_of_getElem? (i := 60) rfl))) (Or.inr (hw _ (List.mem_of_getElem? (i := 12) rfl))) (by decide) (t := .long) (t' := .long) (by decide) (by decide)
theorem own_sn_WeightTree_climbsBetweenRebases_weights {Z : State} {a0 : Array Value} (hw : ∀ d ∈ tables_1, d.before a0 Z = true) : Jvm.RoadKit.slotOf Z "com/example/load_across_peers/loadacrosspeers/internal/pick/WeightTree" "climbsBetweenRebases" "J" ≠ Jvm.RoadKit.slotOf Z "com/example/load_across_peers/loadacrosspeers/internal/pick/WeightTree" "weights" "[J" := slot_ne (Or.inr (hw _ (List.mem_of_getElem? (i := 12) rfl))) (Or.inr (hw _ (List.mem_of_getElem? (i := 14) rfl))) (by decide) (t := .long) (t' := (.array .long)) (by decide) (by decide)
theorem own_sn_WeightTree_present_weights {Z : State} {a0 : Array Value} (hw : ∀ d ∈ tables_1, d.before a0 Z = true) : Jvm.RoadKit.slotOf Z "com/example/load_across_peers/loadacrosspeers/internal/pick/WeightTree" "present" "[Z" ≠ Jvm.RoadKit.slotOf Z "com/example/load_across_peers/loadacrosspeers/internal/pick/WeightTree" "weights" "[J" := slot_ne (Or.inr (hw _ (List.mem_of_getElem? (i := 17) rfl))) (Or.inr (hw _ (List.mem_of_getElem? (i := 14) rfl))) (by decide) (t := (.array .boolean)) (t' := (.array .long)) (by decide) (by decide)
theorem own_sn_WeightTree_sums_weights {Z : State} {a0 : Array Value} (hw : ∀ d ∈ tables_1, d.before a0 Z = true) : Jvm.RoadKit.slotOf Z "com/example/load_across_peers/loadacrosspeers/internal/pick/WeightTree" "sums" "[J" ≠ Jvm.RoadKit.slotOf Z "com/example/load_across_peers/loadacrosspeers/internal/pick/WeightTree" "weights" "[J" := slot_ne (Or.inr (hw _ (List.mem_of_getElem? (i := 19) rfl))) (Or.inr (hw _ (List.mem_of_getElem? (i := 14) rfl))) (by decide) (t := (.array .long)) (t' := (.array .long)) (by decide) (by decide)
theorem own_sn_WeightTree_counts_weights {Z : State} {a0 : Array Value} (hw : ∀ d ∈ tables_1, d.before a0 Z = true) : Jvm.RoadKit.slotOf Z "com/example/load_across_peers/loadacrosspeers/internal/pick/WeightTree" "counts" "[I" ≠ Jvm.RoadKit.slotOf Z "com/example/load_across_peers/loadacrosspeers/internal/pick/WeightTree" "weights" "[J" := slot_ne (Or.inr (hw _ (List.mem_of_getElem? (i := 22) rfl))) (Or.inr (hw _ (List.mem_of_getElem? (i := 14) rfl))) (by decide) (t := (.array .int)) (t' := (.array .long)) (by decide) (by decide)
theorem own_sn_WeightTree_top_weights {Z : State} {a0 : Array Value} (hw : ∀ d ∈ tables_1, d.before a0 Z = true) : Jvm.RoadKit.slotOf Z "com/example/load_across_peers/loadacrosspeers/internal/pick/WeightTree" "top" "I" ≠ Jvm.RoadKit.slotOf Z "com/example/load_across_peers/loadacrosspeers/internal/pick/WeightTree" "weights" "[J" := slot_ne (Or.inr (hw _ (List.mem_of_getElem? (i := 33) rfl))) (Or.inr (hw _ (List.mem_of_getElem? (i := 14) rfl))) (by decide) (t := .int) (t' := (.array .long)) (by decide) (by decide)
theorem own_sn_WeightTree_total_weights {Z : State} {a0 : Array Value} (hw : ∀ d ∈ tables_1, d.before a0 Z = true) : Jvm.RoadKit.slotOf Z "com/example/load_across_peers/loadacrosspeers/internal/pick/WeightTree" "total" "J" ≠ Jvm.RoadKit.slotOf Z "com/example/load_across_peers/loadacrosspeers/internal/pick/WeightTree" "weights" "[J" := slot_ne (Or.inl (hw _ (List.mem_of_getElem? (i := 35) rfl))) (Or.inr (hw _ (List.mem_of_getElem? (i := 14) rfl))) (by decide) (t := .long) (t' := (.array .long)) (by decide) (by decide)
theorem own_sn_WeightTree_taking_weights {Z : State} {a0 : Array Value} (hw : ∀ d ∈ tables_1, d.before a0 Z = true) : Jvm.RoadKit.slotOf Z "com/example/load_across_peers/loadacrosspeers/internal/pick/WeightTree" "taking" "I" ≠ Jvm.RoadKit.slotOf Z "com/example/load_across_peers/loadacrosspeers/internal/pick/WeightTree" "weights" "[J" := slot_ne (Or.inl (hw _ (List.mem_of_getElem? (i := 37) rfl))) (Or.inr (hw _ (List.mem_of_getElem? (i := 14) rfl))) (by decide) (t := .int) (t' := (.array .long)) (by decide) (by decide)
theorem own_sn_WeightTree_rising_weights {Z : State} {a0 : Array Value} (hw : ∀ d ∈ tables_1, d.before a0 Z = true) : Jvm.RoadKit.slotOf Z "com/example/load_across_peers/loadacrosspeers/internal/pick/WeightTree" "rising" "[Z" ≠ Jvm.RoadKit.slotOf Z "com/example/load_across_peers/loadacrosspeers/internal/pick/WeightTree" "weights" "[J" := slot_ne (Or.inl (hw _ (List.mem_of_getElem? (i := 54) rfl))) (Or.inr (hw _ (List.mem_of_getElem? (i := 14) rfl))) (by decide) (t := (.array .boolean)) (t' := (.array .long)) (by decide) (by decide)
theorem own_sn_WeightTree_risingCount_weights {Z : State} {a0 : Array Value} (hw : ∀ d ∈ tables_1, d.before a0 Z = true) : Jvm.RoadKit.slotOf Z "com/example/load_across_peers/loadacrosspeers/internal/pick/WeightTree" "risingCount" "J" ≠ Jvm.RoadKit.slotOf Z "com/example/load_across_peers/loadacrosspeers/internal/pick/WeightTree" "weights" "[J" := slot_ne (Or.inl (hw _ (List.mem_of_getElem? (i := 60) rfl))) (Or.inr (hw _ (List.mem_of_getElem? (i := 14) rfl))) (by decide) (t := .long) (t' := (.array .long)) (by decide) (by decide)
theorem own_sn_WeightTree_climbsBetweenRebases_present {Z : State} {a0 : Array Value} (hw : ∀ d ∈ tables_1, d.before a0 Z = true) : Jvm.RoadKit.slotOf Z "com/example/load_across_peers/loadacrosspeers/internal/pick/WeightTree" "climbsBetweenRebases" "J" ≠ Jvm.RoadKit.slotOf Z "com/example/load_across_peers/loadacrosspeers/internal/pick/WeightTree" "present" "[Z" := slot_ne (Or.inr (hw _ (List.mem_of_getElem? (i := 12) rfl))) (Or.inr (hw _ (List.mem_of_getElem? (i := 17) rfl))) (by decide) (t := .long) (t' := (.array .boolean)) (by decide) (by decide)
theorem own_sn_WeightTree_weights_present {Z : State} {a0 : Array Value} (hw : ∀ d ∈ tables_1, d.before a0 Z = true) : Jvm.RoadKit.slotOf Z "com/example/load_across_peers/loadacrosspeers/internal/pick/WeightTree" "weights" "[J" ≠ Jvm.RoadKit.slotOf Z "com/example/load_across_peers/loadacrosspeers/internal/pick/WeightTree" "present" "[Z" := slot_ne (Or.inr (hw _ (List.mem_of_getElem? (i := 14) rfl))) (Or.inr (hw _ (List.mem_of_getElem? (i := 17) rfl))) (by decide) (t := (.array .long)) (t' := (.array .boolean)) (by decide) (by decide)
theorem own_sn_WeightTree_sums_present {Z : State} {a0 : Array Value} (hw : ∀ d ∈ tables_1, d.before a0 Z = true) : Jvm.RoadKit.slotOf Z "com/example/load_across_peers/loadacrosspeers/internal/pick/WeightTree" "sums" "[J" ≠ Jvm.RoadKit.slotOf Z "com/example/load_across_peers/loadacrosspeers/internal/pick/WeightTree" "present" "[Z" := slot_ne (Or.inr (hw _ (List.mem_of_getElem? (i := 19) rfl))) (Or.inr (hw _ (List.mem_of_getElem? (i := 17) rfl))) (by decide) (t := (.array .long)) (t' := (.array .boolean)) (by decide) (by decide)
theorem own_sn_WeightTree_counts_present {Z : State} {a0 : Array Value} (hw : ∀ d ∈ tables_1, d.before a0 Z = true) : Jvm.RoadKit.slotOf Z "com/example/load_across_peers/loadacrosspeers/internal/pick/WeightTree" "counts" "[I" ≠ Jvm.RoadKit.slotOf Z "com/example/load_across_peers/loadacrosspeers/internal/pick/WeightTree" "present" "[Z" := slot_ne (Or.inr (hw _ (List.mem_of_getElem? (i := 22) rfl))) (Or.inr (hw _ (List.mem_of_getElem? (i := 17) rfl))) (by decide) (t := (.array .int)) (t' := (.array .boolean)) (by decide) (by decide)
theorem own_sn_WeightTree_top_present {Z : State} {a0 : Array Value} (hw : ∀ d ∈ tables_1, d.before a0 Z = true) : Jvm.RoadKit.slotOf Z "com/example/load_across_peers/loadacrosspeers/internal/pick/WeightTree" "top" "I" ≠ Jvm.RoadKit.slotOf Z "com/example/load_across_peers/loadacrosspeers/internal/pick/WeightTree" "present" "[Z" := slot_ne (Or.inr (hw _ (List.mem_of_getElem? (i := 33) rfl))) (Or.inr (hw _ (List.mem_of_getElem? (i := 17) rfl))) (by decide) (t := .int) (t' := (.array .boolean)) (by decide) (by decide)
theorem own_sn_WeightTree_total_present {Z : State} {a0 : Array Value} (hw : ∀ d ∈ tables_1, d.before a0 Z = true) : Jvm.RoadKit.slotOf Z "com/example/load_across_peers/loadacrosspeers/internal/pick/WeightTree" "total" "J" ≠ Jvm.RoadKit.slotOf Z "com/example/load_across_peers/loadacrosspeers/internal/pick/WeightTree" "present" "[Z" := slot_ne (Or.inl (hw _ (List.mem_of_getElem? (i := 35) rfl))) (Or.inr (hw _ (List.mem_of_getElem? (i := 17) rfl))) (by decide) (t := .long) (t' := (.array .boolean)) (by decide) (by decide)
theorem own_sn_WeightTree_taking_present {Z : State} {a0 : Array Value} (hw : ∀ d ∈ tables_1, d.before a0 Z = true) : Jvm.RoadKit.slotOf Z "com/example/load_across_peers/loadacrosspeers/internal/pick/WeightTree" "taking" "I" ≠ Jvm.RoadKit.slotOf Z "com/example/load_across_peers/loadacrosspeers/internal/pick/WeightTree" "present" "[Z" := slot_ne (Or.inl (hw _ (List.mem_of_getElem? (i := 37) rfl))) (Or.inr (hw _ (List.mem_of_getElem? (i := 17) rfl))) (by decide) (t := .int) (t' := (.array .boolean)) (by decide) (by decide)
theorem own_sn_WeightTree_rising_present {Z : State} {a0 : Array Value} (hw : ∀ d ∈ tables_1, d.before a0 Z = true) : Jvm.RoadKit.slotOf Z "com/example/load_across_peers/loadacrosspeers/internal/pick/WeightTree" "rising" "[Z" ≠ Jvm.RoadKit.slotOf Z "com/example/load_across_peers/loadacrosspeers/internal/pick/WeightTree" "present" "[Z" := slot_ne (Or.inl (hw _ (List.mem_of_getElem? (i := 54) rfl))) (Or.inr (hw _ (List.mem_of_getElem? (i := 17) rfl))) (by decide) (t := (.array .boolean)) (t' := (.array .boolean)) (by decide) (by decide)
theorem own_sn_WeightTree_risingCount_present {Z : State} {a0 : Array Value} (hw : ∀ d ∈ tables_1, d.before a0 Z = true) : Jvm.RoadKit.slotOf Z "com/example/load_across_peers/loadacrosspeers/internal/pick/WeightTree" "risingCount" "J" ≠ Jvm.RoadKit.slotOf Z "com/example/load_across_peers/loadacrosspeers/internal/pick/WeightTree" "present" "[Z" := slot_ne (Or.inl (hw _ (List.mem_of_getElem? (i := 60) rfl))) (Or.inr (hw _ (List.mem_of_getElem? (i := 17) rfl))) (by decide) (t := .long) (t' := (.array .boolean)) (by decide) (by decide)
theorem own_sn_WeightTree_climbsBetweenRebases_sums {Z : State} {a0 : Array Value} (hw : ∀ d ∈ tables_1, d.before a0 Z = true) : Jvm.RoadKit.slotOf Z "com/example/load_across_peers/loadacrosspeers/internal/pick/WeightTree" "climbsBetweenRebases" "J" ≠ Jvm.RoadKit.slotOf Z "com/example/load_across_peers/loadacrosspeers/internal/pick/WeightTree" "sums" "[J" := slot_ne (Or.inr (hw _ (List.mem_of_getElem? (i := 12) rfl))) (Or.inr (hw _ (List.mem_of_getElem? (i := 19) rfl))) (by decide) (t := .long) (t' := (.array .long)) (by decide) (by decide)
theorem own_sn_WeightTree_weights_sums {Z : State} {a0 : Array Value} (hw : ∀ d ∈ tables_1, d.before a0 Z = true) : Jvm.RoadKit.slotOf Z "com/example/load_across_peers/loadacrosspeers/internal/pick/WeightTree" "weights" "[J" ≠ Jvm.RoadKit.slotOf Z "com/example/load_across_peers/loadacrosspeers/internal/pick/WeightTree" "sums" "[J" := slot_ne (Or.inr (hw _ (List.mem_of_getElem? (i := 14) rfl))) (Or.inr (hw _ (List.mem_of_getElem? (i := 19) rfl))) (by decide) (t := (.array .long)) (t' := (.array .long)) (by decide) (by decide)
theorem own_sn_WeightTree_present_sums {Z : State} {a0 : Array Value} (hw : ∀ d ∈ tables_1, d.before a0 Z = true) : Jvm.RoadKit.slotOf Z "com/example/load_across_peers/loadacrosspeers/internal/pick/WeightTree" "present" "[Z" ≠ Jvm.RoadKit.slotOf Z "com/example/load_across_peers/loadacrosspeers/internal/pick/WeightTree" "sums" "[J" := slot_ne (Or.inr (hw _ (List.mem_of_getElem? (i := 17) rfl))) (Or.inr (hw _ (List.mem_of_getElem? (i := 19) rfl))) (by decide) (t := (.array .boolean)) (t' := (.array .long)) (by decide) (by decide)
theorem own_sn_WeightTree_counts_sums {Z : State} {a0 : Array Value} (hw : ∀ d ∈ tables_1, d.before a0 Z = true) : Jvm.RoadKit.slotOf Z "com/example/load_across_peers/loadacrosspeers/internal/pick/WeightTree" "counts" "[I" ≠ Jvm.RoadKit.slotOf Z "com/example/load_across_peers/loadacrosspeers/internal/pick/WeightTree" "sums" "[J" := slot_ne (Or.inr (hw _ (List.mem_of_getElem? (i := 22) rfl))) (Or.inr (hw _ (List.mem_of_getElem? (i := 19) rfl))) (by decide) (t := (.array .int)) (t' := (.array .long)) (by decide) (by decide)
theorem own_sn_WeightTree_top_sums {Z : State} {a0 : Array Value} (hw : ∀ d ∈ tables_1, d.before a0 Z = true) : Jvm.RoadKit.slotOf Z "com/example/load_across_peers/loadacrosspeers/internal/pick/WeightTree" "top" "I" ≠ Jvm.RoadKit.slotOf Z "com/example/load_across_peers/loadacrosspeers/internal/pick/WeightTree" "sums" "[J" := slot_ne (Or.inr (hw _ (List.mem_of_getElem? (i := 33) rfl))) (Or.inr (hw _ (List.mem_of_getElem? (i := 19) rfl))) (by decide) (t := .int) (t' := (.array .long)) (by decide) (by decide)
theorem own_sn_WeightTree_total_sums {Z : State} {a0 : Array Value} (hw : ∀ d ∈ tables_1, d.before a0 Z = true) : Jvm.RoadKit.slotOf Z "com/example/load_across_peers/loadacrosspeers/internal/pick/WeightTree" "total" "J" ≠ Jvm.RoadKit.slotOf Z "com/example/load_across_peers/loadacrosspeers/internal/pick/WeightTree" "sums" "[J" := slot_ne (Or.inl (hw _ (List.mem_of_getElem? (i := 35) rfl))) (Or.inr (hw _ (List.mem_of_getElem? (i := 19) rfl))) (by decide) (t := .long) (t' := (.array .long)) (by decide) (by decide)
theorem own_sn_WeightTree_taking_sums {Z : State} {a0 : Array Value} (hw : ∀ d ∈ tables_1, d.before a0 Z = true) : Jvm.RoadKit.slotOf Z "com/example/load_across_peers/loadacrosspeers/internal/pick/WeightTree" "taking" "I" ≠ Jvm.RoadKit.slotOf Z "com/example/load_across_peers/loadacrosspeers/internal/pick/WeightTree" "sums" "[J" := slot_ne (Or.inl (hw _ (List.mem_of_getElem? (i := 37) rfl))) (Or.inr (hw _ (List.mem_of_getElem? (i := 19) rfl))) (by decide) (t := .int) (t' := (.array .long)) (by decide) (by decide)
theorem own_sn_WeightTree_rising_sums {Z : State} {a0 : Array Value} (hw : ∀ d ∈ tables_1, d.before a0 Z = true) : Jvm.RoadKit.slotOf Z "com/example/load_across_peers/loadacrosspeers/internal/pick/WeightTree" "rising" "[Z" ≠ Jvm.RoadKit.slotOf Z "com/example/load_across_peers/loadacrosspeers/internal/pick/WeightTree" "sums" "[J" := slot_ne (Or.inl (hw _ (List.mem_of_getElem? (i := 54) rfl))) (Or.inr (hw _ (List.mem_of_getElem? (i := 19) rfl))) (by decide) (t := (.array .boolean)) (t' := (.array .long)) (by decide) (by decide)
theorem own_sn_WeightTree_risingCount_sums {Z : State} {a0 : Array Value} (hw : ∀ d ∈ tables_1, d.before a0 Z = true) : Jvm.RoadKit.slotOf Z "com/example/load_across_peers/loadacrosspeers/internal/pick/WeightTree" "risingCount" "J" ≠ Jvm.RoadKit.slotOf Z "com/example/load_across_peers/loadacrosspeers/internal/pick/WeightTree" "sums" "[J" := slot_ne (Or.inl (hw _ (List.mem_of_getElem? (i := 60) rfl))) (Or.inr (hw _ (List.mem_of_getElem? (i := 19) rfl))) (by decide) (t := .long) (t' := (.array .long)) (by decide) (by decide)
theorem own_sn_WeightTree_climbsBetweenRebases_counts {Z : State} {a0 : Array Value} (hw : ∀ d ∈ tables_1, d.before a0 Z = true) : Jvm.RoadKit.slotOf Z "com/example/load_across_peers/loadacrosspeers/internal/pick/WeightTree" "climbsBetweenRebases" "J" ≠ Jvm.RoadKit.slotOf Z "com/example/load_across_peers/loadacrosspeers/internal/pick/WeightTree" "counts" "[I" := slot_ne (Or.inr (hw _ (List.mem_of_getElem? (i := 12) rfl))) (Or.inr (hw _ (List.mem_of_getElem? (i := 22) rfl))) (by decide) (t := .long) (t' := (.array .int)) (by decide) (by decide)
theorem own_sn_WeightTree_weights_counts {Z : State} {a0 : Array Value} (hw : ∀ d ∈ tables_1, d.before a0 Z = true) : Jvm.RoadKit.slotOf Z "com/example/load_across_peers/loadacrosspeers/internal/pick/WeightTree" "weights" "[J" ≠ Jvm.RoadKit.slotOf Z "com/example/load_across_peers/loadacrosspeers/internal/pick/WeightTree" "counts" "[I" := slot_ne (Or.inr (hw _ (List.mem_of_getElem? (i := 14) rfl))) (Or.inr (hw _ (List.mem_of_getElem? (i := 22) rfl))) (by decide) (t := (.array .long)) (t' := (.array .int)) (by decide) (by decide)
theorem own_sn_WeightTree_present_counts {Z : State} {a0 : Array Value} (hw : ∀ d ∈ tables_1, d.before a0 Z = true) : Jvm.RoadKit.slotOf Z "com/example/load_across_peers/loadacrosspeers/internal/pick/WeightTree" "present" "[Z" ≠ Jvm.RoadKit.slotOf Z "com/example/load_across_peers/loadacrosspeers/internal/pick/WeightTree" "counts" "[I" := slot_ne (Or.inr (hw _ (List.mem_of_getElem? (i := 17) rfl))) (Or.inr (hw _ (List.mem_of_getElem? (i := 22) rfl))) (by decide) (t := (.array .boolean)) (t' := (.array .int)) (by decide) (by decide)
theorem own_sn_WeightTree_sums_counts {Z : State} {a0 : Array Value} (hw : ∀ d ∈ tables_1, d.before a0 Z = true) : Jvm.RoadKit.slotOf Z "com/example/load_across_peers/loadacrosspeers/internal/pick/WeightTree" "sums" "[J" ≠ Jvm.RoadKit.slotOf Z "com/example/load_across_peers/loadacrosspeers/internal/pick/WeightTree" "counts" "[I" := slot_ne (Or.inr (hw _ (List.mem_of_getElem? (i := 19) rfl))) (Or.inr (hw _ (List.mem_of_getElem? (i := 22) rfl))) (by decide) (t := (.array .long)) (t' := (.array .int)) (by decide) (by decide)
theorem own_sn_WeightTree_top_counts {Z : State} {a0 : Array Value} (hw : ∀ d ∈ tables_1, d.before a0 Z = true) : Jvm.RoadKit.slotOf Z "com/example/load_across_peers/loadacrosspeers/internal/pick/WeightTree" "top" "I" ≠ Jvm.RoadKit.slotOf Z "com/example/load_across_peers/loadacrosspeers/internal/pick/WeightTree" "counts" "[I" := slot_ne (Or.inr (hw _ (List.mem_of_getElem? (i := 33) rfl))) (Or.inr (hw _ (List.mem_of_getElem? (i := 22) rfl))) (by decide) (t := .int) (t' := (.array .int)) (by decide) (by decide)
theorem own_sn_WeightTree_total_counts {Z : State} {a0 : Array Value} (hw : ∀ d ∈ tables_1, d.before a0 Z = true) : Jvm.RoadKit.slotOf Z "com/example/load_across_peers/loadacrosspeers/internal/pick/WeightTree" "total" "J" ≠ Jvm.RoadKit.slotOf Z "com/example/load_across_peers/loadacrosspeers/internal/pick/WeightTree" "counts" "[I" := slot_ne (Or.inl (hw _ (List.mem_of_getElem? (i := 35) rfl))) (Or.inr (hw _ (List.mem_of_getElem? (i := 22) rfl))) (by decide) (t := .long) (t' := (.array .int)) (by decide) (by decide)
theorem own_sn_WeightTree_taking_counts {Z : State} {a0 : Array Value} (hw : ∀ d ∈ tables_1, d.before a0 Z = true) : Jvm.RoadKit.slotOf Z "com/example/load_across_peers/loadacrosspeers/internal/pick/WeightTree" "taking" "I" ≠ Jvm.RoadKit.slotOf Z "com/example/load_across_peers/loadacrosspeers/internal/pick/WeightTree" "counts" "[I" := slot_ne (Or.inl (hw _ (List.mem_of_getElem? (i := 37) rfl))) (Or.inr (hw _ (List.mem_of_getElem? (i := 22) rfl))) (by decide) (t := .int) (t' := (.array .int)) (by decide) (by decide)
theorem own_sn_WeightTree_rising_counts {Z : State} {a0 : Array Value} (hw : ∀ d ∈ tables_1, d.before a0 Z = true) : Jvm.RoadKit.slotOf Z "com/example/load_across_peers/loadacrosspeers/internal/pick/WeightTree" "rising" "[Z" ≠ Jvm.RoadKit.slotOf Z "com/example/load_across_peers/loadacrosspeers/internal/pick/WeightTree" "counts" "[I" := slot_ne (Or.inl (hw _ (List.mem_of_getElem? (i := 54) rfl))) (Or.inr (hw _ (List.mem_of_getElem? (i := 22) rfl))) (by decide) (t := (.array .boolean)) (t' := (.array .int)) (by decide) (by decide)
theorem own_sn_WeightTree_risingCount_counts {Z : State} {a0 : Array Value} (hw : ∀ d ∈ tables_1, d.before a0 Z = true) : Jvm.RoadKit.slotOf Z "com/example/load_across_peers/loadacrosspeers/internal/pick/WeightTree" "risingCount" "J" ≠ Jvm.RoadKit.slotOf Z "com/example/load_across_peers/loadacrosspeers/internal/pick/WeightTree" "counts" "[I" := slot_ne (Or.inl (hw _ (List.mem_of_getElem? (i := 60) rfl))) (Or.inr (hw _ (List.mem_of_getElem? (i := 22) rfl))) (by decide) (t := .long) (t' := (.array .int)) (by decide) (by decide)
theorem own_sn_WeightTree_climbsBetweenRebases_top {Z : State} {a0 : Array Value} (hw : ∀ d ∈ tables_1, d.before a0 Z = true) : Jvm.RoadKit.slotOf Z "com/example/load_across_peers/loadacrosspeers/internal/pick/WeightTree" "climbsBetweenRebases" "J" ≠ Jvm.RoadKit.slotOf Z "com/example/load_across_peers/loadacrosspeers/internal/pick/WeightTree" "top" "I" := slot_ne (Or.inr (hw _ (List.mem_of_getElem? (i := 12) rfl))) (Or.inr (hw _ (List.mem_of_getElem? (i := 33) rfl))) (by decide) (t := .long) (t' := .int) (by decide) (by decide)
theorem own_sn_WeightTree_weights_top {Z : State} {a0 : Array Value} (hw : ∀ d ∈ tables_1, d.before a0 Z = true) : Jvm.RoadKit.slotOf Z "com/example/load_across_peers/loadacrosspeers/internal/pick/WeightTree" "weights" "[J" ≠ Jvm.RoadKit.slotOf Z "com/example/load_across_peers/loadacrosspeers/internal/pick/WeightTree" "top" "I" := slot_ne (Or.inr (hw _ (List.mem_of_getElem? (i := 14) rfl))) (Or.inr (hw _ (List.mem_of_getElem? (i := 33) rfl))) (by decide) (t := (.array .long)) (t' := .int) (by decide) (by decide)
theorem own_sn_WeightTree_present_top {Z : State} {a0 : Array Value} (hw : ∀ d ∈ tables_1, d.before a0 Z = true) : Jvm.RoadKit.slotOf Z "com/example/load_across_peers/loadacrosspeers/internal/pick/WeightTree" "present" "[Z" ≠ Jvm.RoadKit.slotOf Z "com/example/load_across_peers/loadacrosspeers/internal/pick/WeightTree" "top" "I" := slot_ne (Or.inr (hw _ (List.mem_of_getElem? (i := 17) rfl))) (Or.inr (hw _ (List.mem_of_getElem? (i := 33) rfl))) (by decide) (t := (.array .boolean)) (t' := .int) (by decide) (by decide)
theorem own_sn_WeightTree_sums_top {Z : State} {a0 : Array Value} (hw : ∀ d ∈ tables_1, d.before a0 Z = true) : Jvm.RoadKit.slotOf Z "com/example/load_across_peers/loadacrosspeers/internal/pick/WeightTree" "sums" "[J" ≠ Jvm.RoadKit.slotOf Z "com/example/load_across_peers/loadacrosspeers/internal/pick/WeightTree" "top" "I" := slot_ne (Or.inr (hw _ (List.mem_of_getElem? (i := 19) rfl))) (Or.inr (hw _ (List.mem_of_getElem? (i := 33) rfl))) (by decide) (t := (.array .long)) (t' := .int) (by decide) (by decide)
theorem own_sn_WeightTree_counts_top {Z : State} {a0 : Array Value} (hw : ∀ d ∈ tables_1, d.before a0 Z = true) : Jvm.RoadKit.slotOf Z "com/example/load_across_peers/loadacrosspeers/internal/pick/WeightTree" "counts" "[I" ≠ Jvm.RoadKit.slotOf Z "com/example/load_across_peers/loadacrosspeers/internal/pick/WeightTree" "top" "I" := slot_ne (Or.inr (hw _ (List.mem_of_getElem? (i := 22) rfl))) (Or.inr (hw _ (List.mem_of_getElem? (i := 33) rfl))) (by decide) (t := (.array .int)) (t' := .int) (by decide) (by decide)
theorem own_sn_WeightTree_total_top {Z : State} {a0 : Array Value} (hw : ∀ d ∈ tables_1, d.before a0 Z = true) : Jvm.RoadKit.slotOf Z "com/example/load_across_peers/loadacrosspeers/internal/pick/WeightTree" "total" "J" ≠ Jvm.RoadKit.slotOf Z "com/example/load_across_peers/loadacrosspeers/internal/pick/WeightTree" "top" "I" := slot_ne (Or.inl (hw _ (List.mem_of_getElem? (i := 35) rfl))) (Or.inr (hw _ (List.mem_of_getElem? (i := 33) rfl))) (by decide) (t := .long) (t' := .int) (by decide) (by decide)
theorem own_sn_WeightTree_taking_top {Z : State} {a0 : Array Value} (hw : ∀ d ∈ tables_1, d.before a0 Z = true) : Jvm.RoadKit.slotOf Z "com/example/load_across_peers/loadacrosspeers/internal/pick/WeightTree" "taking" "I" ≠ Jvm.RoadKit.slotOf Z "com/example/load_across_peers/loadacrosspeers/internal/pick/WeightTree" "top" "I" := slot_ne (Or.inl (hw _ (List.mem_of_getElem? (i := 37) rfl))) (Or.inr (hw _ (List.mem_of_getElem? (i := 33) rfl))) (by decide) (t := .int) (t' := .int) (by decide) (by decide)
theorem own_sn_WeightTree_rising_top {Z : State} {a0 : Array Value} (hw : ∀ d ∈ tables_1, d.before a0 Z = true) : Jvm.RoadKit.slotOf Z "com/example/load_across_peers/loadacrosspeers/internal/pick/WeightTree" "rising" "[Z" ≠ Jvm.RoadKit.slotOf Z "com/example/load_across_peers/loadacrosspeers/internal/pick/WeightTree" "top" "I" := slot_ne (Or.inl (hw _ (List.mem_of_getElem? (i := 54) rfl))) (Or.inr (hw _ (List.mem_of_getElem? (i := 33) rfl))) (by decide) (t := (.array .boolean)) (t' := .int) (by decide) (by decide)
theorem own_sn_WeightTree_risingCount_top {Z : State} {a0 : Array Value} (hw : ∀ d ∈ tables_1, d.before a0 Z = true) : Jvm.RoadKit.slotOf Z "com/example/load_across_peers/loadacrosspeers/internal/pick/WeightTree" "risingCount" "J" ≠ Jvm.RoadKit.slotOf Z "com/example/load_across_peers/loadacrosspeers/internal/pick/WeightTree" "top" "I" := slot_ne (Or.inl (hw _ (List.mem_of_getElem? (i := 60) rfl))) (Or.inr (hw _ (List.mem_of_getElem? (i := 33) rfl))) (by decide) (t := .long) (t' := .int) (by decide) (by decide)
theorem own_sn_WeightTree_climbsBetweenRebases_total {Z : State} {a0 : Array Value} (hw : ∀ d ∈ tables_1, d.before a0 Z = true) : Jvm.RoadKit.slotOf Z "com/example/load_across_peers/loadacrosspeers/internal/pick/WeightTree" "climbsBetweenRebases" "J" ≠ Jvm.RoadKit.slotOf Z "com/example/load_across_peers/loadacrosspeers/internal/pick/WeightTree" "total" "J" := slot_ne (Or.inr (hw _ (List.mem_of_getElem? (i := 12) rfl))) (Or.inl (hw _ (List.mem_of_getElem? (i := 35) rfl))) (by decide) (t := .long) (t' := .long) (by decide) (by decide)
theorem own_sn_WeightTree_climbsBetweenRebases_taking {Z : State} {a0 : Array Value} (hw : ∀ d ∈ tables_1, d.before a0 Z = true) : Jvm.RoadKit.slotOf Z "com/example/load_across_peers/loadacrosspeers/internal/pick/WeightTree" "climbsBetweenRebases" "J" ≠ Jvm.RoadKit.slotOf Z "com/example/load_across_peers/loadacrosspeers/internal/pick/WeightTree" "taking" "I" := slot_ne (Or.inr (hw _ (List.mem_of_getElem? (i := 12) rfl))) (Or.inl (hw _ (List.mem_of_getElem? (i := 37) rfl))) (by decide) (t := .long) (t' := .int) (by decide) (by decide)
theorem own_dI_0 : decode prog_32_method_2_code 0 = .ok (.aload_n 0, 1) := by decide +kernel
theorem own_dI_1 : decode prog_32_method_2_code 1 = .ok (.invokespecial 9, 3) := by decide +kernel
theorem own_dI_4 : decode prog_32_method_2_code 4 = .ok (.aload_n 0, 1) := by decide +kernel
theorem own_dI_5 : decode prog_32_method_2_code 5 = .ok (.lload_n 2, 1) := by decide +kernel
theorem own_dI_6 : decode prog_32_method_2_code 6 = .ok (.putfield 14, 3) := by decide +kernel
theorem own_dI_9 : decode prog_32_method_2_code 9 = .ok (.aload_n 0, 1) := by decide +kernel
theorem own_dI_10 : decode prog_32_method_2_code 10 = .ok (.aload_n 1, 1) := by decide +kernel
theorem own_dI_11 : decode prog_32_method_2_code 11 = .ok (.putfield 18, 3) := by decide +kernel
theorem own_dI_14 : decode prog_32_method_2_code 14 = .ok (.aload_n 0, 1) := by decide +kernel
theorem own_dI_15 : decode prog_32_method_2_code 15 = .ok (.aload_n 1, 1) := by decide +kernel
theorem own_dI_16 : decode prog_32_method_2_code 16 = .ok (.arraylength, 1) := by decide +kernel
theorem own_dI_17 : decode prog_32_method_2_code 17 = .ok (.newarray .boolean, 2) := by decide +kernel
theorem own_dI_19 : decode prog_32_method_2_code 19 = .ok (.putfield 22, 3) := by decide +kernel
theorem own_dI_22 : decode prog_32_method_2_code 22 = .ok (.aload_n 0, 1) := by decide +kernel
theorem own_dI_23 : decode prog_32_method_2_code 23 = .ok (.aload_n 1, 1) := by decide +kernel
theorem own_dI_24 : decode prog_32_method_2_code 24 = .ok (.arraylength, 1) := by decide +kernel
theorem own_dI_25 : decode prog_32_method_2_code 25 = .ok (.iconst 1, 1) := by decide +kernel
theorem own_dI_26 : decode prog_32_method_2_code 26 = .ok (.iadd, 1) := by decide +kernel
theorem own_dI_27 : decode prog_32_method_2_code 27 = .ok (.newarray .long, 2) := by decide +kernel
theorem own_dI_29 : decode prog_32_method_2_code 29 = .ok (.putfield 26, 3) := by decide +kernel
theorem own_dI_32 : decode prog_32_method_2_code 32 = .ok (.aload_n 0, 1) := by decide +kernel
theorem own_dI_33 : decode prog_32_method_2_code 33 = .ok (.aload_n 1, 1) := by decide +kernel
theorem own_dI_34 : decode prog_32_method_2_code 34 = .ok (.arraylength, 1) := by decide +kernel
theorem own_dI_35 : decode prog_32_method_2_code 35 = .ok (.iconst 1, 1) := by decide +kernel
theorem own_dI_36 : decode prog_32_method_2_code 36 = .ok (.iadd, 1) := by decide +kernel
theorem own_dI_37 : decode prog_32_method_2_code 37 = .ok (.newarray .int, 2) := by decide +kernel
theorem own_dI_39 : decode prog_32_method_2_code 39 = .ok (.putfield 29, 3) := by decide +kernel
theorem own_dI_42 : decode prog_32_method_2_code 42 = .ok (.aload_n 0, 1) := by decide +kernel
theorem own_dI_43 : decode prog_32_method_2_code 43 = .ok (.aload_n 1, 1) := by decide +kernel
theorem own_dI_44 : decode prog_32_method_2_code 44 = .ok (.arraylength, 1) := by decide +kernel
theorem own_dI_45 : decode prog_32_method_2_code 45 = .ok (.invokestatic 33, 3) := by decide +kernel
theorem own_dI_48 : decode prog_32_method_2_code 48 = .ok (.putfield 39, 3) := by decide +kernel
theorem own_dI_51 : decode prog_32_method_2_code 51 = .ok (.iconst 1, 1) := by decide +kernel
theorem own_dI_52 : decode prog_32_method_2_code 52 = .ok (.istore 4, 2) := by decide +kernel
theorem own_dI_54 : decode prog_32_method_2_code 54 = .ok (.iload 4, 2) := by decide +kernel
theorem own_dI_56 : decode prog_32_method_2_code 56 = .ok (.aload_n 1, 1) := by decide +kernel
theorem own_dI_57 : decode prog_32_method_2_code 57 = .ok (.arraylength, 1) := by decide +kernel
theorem own_dI_58 : decode prog_32_method_2_code 58 = .ok (.if_icmp .gt 123, 3) := by decide +kernel
theorem own_dI_61 : decode prog_32_method_2_code 61 = .ok (.aload_n 0, 1) := by decide +kernel
theorem own_dI_62 : decode prog_32_method_2_code 62 = .ok (.getfield 22, 3) := by decide +kernel
theorem own_dI_65 : decode prog_32_method_2_code 65 = .ok (.iload 4, 2) := by decide +kernel
theorem own_dI_67 : decode prog_32_method_2_code 67 = .ok (.iconst 1, 1) := by decide +kernel
theorem own_dI_68 : decode prog_32_method_2_code 68 = .ok (.isub, 1) := by decide +kernel
theorem own_dI_69 : decode prog_32_method_2_code 69 = .ok (.iconst 1, 1) := by decide +kernel
theorem own_dI_70 : decode prog_32_method_2_code 70 = .ok (.bastore, 1) := by decide +kernel
theorem own_dI_71 : decode prog_32_method_2_code 71 = .ok (.aload_n 0, 1) := by decide +kernel
theorem own_dI_72 : decode prog_32_method_2_code 72 = .ok (.getfield 26, 3) := by decide +kernel
theorem own_dI_75 : decode prog_32_method_2_code 75 = .ok (.iload 4, 2) := by decide +kernel
theorem own_dI_77 : decode prog_32_method_2_code 77 = .ok (.dup2, 1) := by decide +kernel
theorem own_dI_78 : decode prog_32_method_2_code 78 = .ok (.laload, 1) := by decide +kernel
theorem own_dI_79 : decode prog_32_method_2_code 79 = .ok (.aload_n 1, 1) := by decide +kernel
theorem own_dI_80 : decode prog_32_method_2_code 80 = .ok (.iload 4, 2) := by decide +kernel
theorem own_dI_82 : decode prog_32_method_2_code 82 = .ok (.iconst 1, 1) := by decide +kernel
theorem own_dI_83 : decode prog_32_method_2_code 83 = .ok (.isub, 1) := by decide +kernel
theorem own_dI_84 : decode prog_32_method_2_code 84 = .ok (.laload, 1) := by decide +kernel
theorem own_dI_85 : decode prog_32_method_2_code 85 = .ok (.ladd, 1) := by decide +kernel
theorem own_dI_86 : decode prog_32_method_2_code 86 = .ok (.lastore, 1) := by decide +kernel
theorem own_dI_87 : decode prog_32_method_2_code 87 = .ok (.aload_n 0, 1) := by decide +kernel
theorem own_dI_88 : decode prog_32_method_2_code 88 = .ok (.getfield 29, 3) := by decide +kernel
theorem own_dI_91 : decode prog_32_method_2_code 91 = .ok (.iload 4, 2) := by decide +kernel
theorem own_dI_93 : decode prog_32_method_2_code 93 = .ok (.dup2, 1) := by decide +kernel
theorem own_dI_94 : decode prog_32_method_2_code 94 = .ok (.iaload, 1) := by decide +kernel
theorem own_dI_95 : decode prog_32_method_2_code 95 = .ok (.iconst 1, 1) := by decide +kernel
theorem own_dI_96 : decode prog_32_method_2_code 96 = .ok (.iadd, 1) := by decide +kernel
theorem own_dI_97 : decode prog_32_method_2_code 97 = .ok (.iastore, 1) := by decide +kernel
theorem own_dI_98 : decode prog_32_method_2_code 98 = .ok (.aload_n 0, 1) := by decide +kernel
theorem own_dI_99 : decode prog_32_method_2_code 99 = .ok (.dup, 1) := by decide +kernel
theorem own_dI_100 : decode prog_32_method_2_code 100 = .ok (.getfield 43, 3) := by decide +kernel
theorem own_dI_103 : decode prog_32_method_2_code 103 = .ok (.aload_n 1, 1) := by decide +kernel
theorem own_dI_104 : decode prog_32_method_2_code 104 = .ok (.iload 4, 2) := by decide +kernel
theorem own_dI_106 : decode prog_32_method_2_code 106 = .ok (.iconst 1, 1) := by decide +kernel
theorem own_dI_107 : decode prog_32_method_2_code 107 = .ok (.isub, 1) := by decide +kernel
theorem own_dI_108 : decode prog_32_method_2_code 108 = .ok (.laload, 1) := by decide +kernel
theorem own_dI_109 : decode prog_32_method_2_code 109 = .ok (.ladd, 1) := by decide +kernel
theorem own_dI_110 : decode prog_32_method_2_code 110 = .ok (.putfield 43, 3) := by decide +kernel
theorem own_dI_113 : decode prog_32_method_2_code 113 = .ok (.aload_n 0, 1) := by decide +kernel
theorem own_dI_114 : decode prog_32_method_2_code 114 = .ok (.dup, 1) := by decide +kernel
theorem own_dI_115 : decode prog_32_method_2_code 115 = .ok (.getfield 46, 3) := by decide +kernel
theorem own_dI_118 : decode prog_32_method_2_code 118 = .ok (.iconst 1, 1) := by decide +kernel
theorem own_dI_119 : decode prog_32_method_2_code 119 = .ok (.iadd, 1) := by decide +kernel
theorem own_dI_120 : decode prog_32_method_2_code 120 = .ok (.putfield 46, 3) := by decide +kernel
theorem own_dI_123 : decode prog_32_method_2_code 123 = .ok (.iload 4, 2) := by decide +kernel
theorem own_dI_125 : decode prog_32_method_2_code 125 = .ok (.iload 4, 2) := by decide +kernel
theorem own_dI_127 : decode prog_32_method_2_code 127 = .ok (.iload 4, 2) := by decide +kernel
theorem own_dI_129 : decode prog_32_method_2_code 129 = .ok (.ineg, 1) := by decide +kernel
theorem own_dI_130 : decode prog_32_method_2_code 130 = .ok (.iand, 1) := by decide +kernel
theorem own_dI_131 : decode prog_32_method_2_code 131 = .ok (.iadd, 1) := by decide +kernel
theorem own_dI_132 : decode prog_32_method_2_code 132 = .ok (.istore 5, 2) := by decide +kernel
theorem own_dI_134 : decode prog_32_method_2_code 134 = .ok (.iload 5, 2) := by decide +kernel
theorem own_dI_136 : decode prog_32_method_2_code 136 = .ok (.aload_n 1, 1) := by decide +kernel
theorem own_dI_137 : decode prog_32_method_2_code 137 = .ok (.arraylength, 1) := by decide +kernel
theorem own_dI_138 : decode prog_32_method_2_code 138 = .ok (.if_icmp .gt 37, 3) := by decide +kernel
theorem own_dI_141 : decode prog_32_method_2_code 141 = .ok (.aload_n 0, 1) := by decide +kernel
theorem own_dI_142 : decode prog_32_method_2_code 142 = .ok (.getfield 26, 3) := by decide +kernel
theorem own_dI_145 : decode prog_32_method_2_code 145 = .ok (.iload 5, 2) := by decide +kernel
theorem own_dI_147 : decode prog_32_method_2_code 147 = .ok (.dup2, 1) := by decide +kernel
theorem own_dI_148 : decode prog_32_method_2_code 148 = .ok (.laload, 1) := by decide +kernel
theorem own_dI_149 : decode prog_32_method_2_code 149 = .ok (.aload_n 0, 1) := by decide +kernel
theorem own_dI_150 : decode prog_32_method_2_code 150 = .ok (.getfield 26, 3) := by decide +kernel
theorem own_dI_153 : decode prog_32_method_2_code 153 = .ok (.iload 4, 2) := by decide +kernel
theorem own_dI_155 : decode prog_32_method_2_code 155 = .ok (.laload, 1) := by decide +kernel
theorem own_dI_156 : decode prog_32_method_2_code 156 = .ok (.ladd, 1) := by decide +kernel
theorem own_dI_157 : decode prog_32_method_2_code 157 = .ok (.lastore, 1) := by decide +kernel
theorem own_dI_158 : decode prog_32_method_2_code 158 = .ok (.aload_n 0, 1) := by decide +kernel
theorem own_dI_159 : decode prog_32_method_2_code 159 = .ok (.getfield 29, 3) := by decide +kernel
theorem own_dI_162 : decode prog_32_method_2_code 162 = .ok (.iload 5, 2) := by decide +kernel
theorem own_dI_164 : decode prog_32_method_2_code 164 = .ok (.dup2, 1) := by decide +kernel
theorem own_dI_165 : decode prog_32_method_2_code 165 = .ok (.iaload, 1) := by decide +kernel
theorem own_dI_166 : decode prog_32_method_2_code 166 = .ok (.aload_n 0, 1) := by decide +kernel
theorem own_dI_167 : decode prog_32_method_2_code 167 = .ok (.getfield 29, 3) := by decide +kernel
theorem own_dI_170 : decode prog_32_method_2_code 170 = .ok (.iload 4, 2) := by decide +kernel
theorem own_dI_172 : decode prog_32_method_2_code 172 = .ok (.iaload, 1) := by decide +kernel
theorem own_dI_173 : decode prog_32_method_2_code 173 = .ok (.iadd, 1) := by decide +kernel
theorem own_dI_174 : decode prog_32_method_2_code 174 = .ok (.iastore, 1) := by decide +kernel
theorem own_dI_175 : decode prog_32_method_2_code 175 = .ok (.iinc 4 1, 3) := by decide +kernel
theorem own_dI_178 : decode prog_32_method_2_code 178 = .ok (.goto (-124), 3) := by decide +kernel
theorem own_dI_181 : decode prog_32_method_2_code 181 = .ok (.return_, 1) := by decide +kernel
theorem own_pn_own_rmI : plainFor (⟨"com/example/load_across_peers/loadacrosspeers/internal/pick/WeightTree", "<init>", "([JJ)V"⟩ : MethodName) = true := plainFor_of_name (show plainName "com/example/load_across_peers/loadacrosspeers/internal/pick/WeightTree" = true by first | (simp [plainName, overriddenIn]; done) | decide +kernel)
set_option maxRecDepth 65536 in
set_option maxHeartbeats 40000000 in
theorem own_rmI (l : Launch) (Z : State) (a0 : Array Value) (hw : ∀ d ∈ tables_1, d.before a0 Z = true) (ws : List Jvm.Cond) (h0 : Heap) (n0 : Nat) (Z0 : n0 ≤ h0.size) (t w : Addr) (g_t : n0 ≤ t) (ne_t_w : t ≠ w) (y : Int64) (E_t : Exa Z h0 t "com/example/load_across_peers/loadacrosspeers/internal/pick/WeightTree") (A_w : own_O Z h0 .long w 6 own_isJ) (F_climbsBetweenRebases : Fld Z h0 t "com/example/load_across_peers/loadacrosspeers/internal/pick/WeightTree" "climbsBetweenRebases" "J" (.long (0 : Int64))) (F_weights : Fld Z h0 t "com/example/load_across_peers/loadacrosspeers/internal/pick/WeightTree" "weights" "[J" .null) (F_present : Fld Z h0 t "com/example/load_across_peers/loadacrosspeers/internal/pick/WeightTree" "present" "[Z" .null) (F_sums : Fld Z h0 t "com/example/load_across_peers/loadacrosspeers/internal/pick/WeightTree" "sums" "[J" .null) (F_counts : Fld Z h0 t "com/example/load_across_peers/loadacrosspeers/internal/pick/WeightTree" "counts" "[I" .null) (F_top : Fld Z h0 t "com/example/load_across_peers/loadacrosspeers/internal/pick/WeightTree" "top" "I" (.int (0 : Int32))) (F_total : Fld Z h0 t "com/example/load_across_peers/loadacrosspeers/internal/pick/WeightTree" "total" "J" (.long (0 : Int64))) (F_taking : Fld Z h0 t "com/example/load_across_peers/loadacrosspeers/internal/pick/WeightTree" "taking" "I" (.int (0 : Int32))) (F_rising : Fld Z h0 t "com/example/load_across_peers/loadacrosspeers/internal/pick/WeightTree" "rising" "[Z" .null) (F_risingCount : Fld Z h0 t "com/example/load_across_peers/loadacrosspeers/internal/pick/WeightTree" "risingCount" "J" (.long (0 : Int64)))  :
    own_C l Z (⟨"com/example/load_across_peers/loadacrosspeers/internal/pick/WeightTree", "<init>", "([JJ)V"⟩ : MethodName) prog_32_method_2_code 6 none ws ({ frames := 2, cells := 3, slots := 20, locals := 31 } : Room) #[(.ref t), (.ref w), (.long y)] h0 (own_Q n0 (fun v h => v = none ∧ ∃ bp bs bc, own_T Z h n0 t w bp bs bc [(.int (0 : Int32)), (.int (1 : Int32)), (.int (2 : Int32)), (.int (1 : Int32)), (.int (4 : Int32)), (.int (1 : Int32)), (.int (2 : Int32))])) := by
  refine own_met own_pn_own_rmI #[rv t, rv w, jv y, .second, .unset, .unset] (fun m => by first | (simp [entryFrame, mkF, argsToLocals, Value.category]; done) | rfl) ?_
  intro p e s m below meth c s₁ hx hby hml hown hret hlk hZ hnm X0 e0
  replace X0 := own_S.of X0 (n0)
  have hn := Z0
  refine own_go (mkF m 1 #[rv t, rv w, jv y, .second, .unset, .unset] [(.ref t)]) (fun t' k => XS.aloadN X0.here hx rfl (hb hby own_dI_0) rfl rfl  k) ?_
  refine X0.initO hx hZ hown (hw _ (List.mem_of_getElem? (i := 8) rfl)) (hw _ (List.mem_of_getElem? (i := 9) rfl)) (hw _ (List.mem_of_getElem? (i := 10) rfl)) e0 (by rw [hml]; rfl) (hb hby own_dI_1) (by decide) 0 (Nat.le_of_eq rfl) (by decide) ?_
  intro T1 X1 e1
  refine own_go (mkF m 5 #[rv t, rv w, jv y, .second, .unset, .unset] [(.ref t)]) (fun t' k => XS.aloadN X1.here hx rfl (hb hby own_dI_4) rfl rfl  k) ?_
  refine own_go (mkF m 6 #[rv t, rv w, jv y, .second, .unset, .unset] [(.long y), (.ref t)]) (fun t' k => XS.lloadN X1.here hx rfl (hb hby own_dI_5) rfl  k) ?_
  refine X1.putF hx hZ hown (hw _ (List.mem_of_getElem? (i := 11) rfl)) e1 F_climbsBetweenRebases E_t g_t (Or.inr ⟨(hw _ (List.mem_of_getElem? (i := 12) rfl)), rfl, hnm⟩) (hw _ (List.mem_of_getElem? (i := 2) rfl)) (ty := .long) (by decide) rfl rfl (hb hby own_dI_6) ?_
  intro T2 h2 X2 e2 W2
  replace E_t := E_t.wr W2
  replace A_w := A_w.other W2 (Ne.symm ne_t_w)
  replace F_climbsBetweenRebases := F_climbsBetweenRebases.same W2
  replace F_weights := F_weights.other W2 (Or.inr (own_sn_WeightTree_weights_climbsBetweenRebases hw))
  replace F_present := F_present.other W2 (Or.inr (own_sn_WeightTree_present_climbsBetweenRebases hw))
  replace F_sums := F_sums.other W2 (Or.inr (own_sn_WeightTree_sums_climbsBetweenRebases hw))
  replace F_counts := F_counts.other W2 (Or.inr (own_sn_WeightTree_counts_climbsBetweenRebases hw))
  replace F_top := F_top.other W2 (Or.inr (own_sn_WeightTree_top_climbsBetweenRebases hw))
  replace F_total := F_total.other W2 (Or.inr (own_sn_WeightTree_total_climbsBetweenRebases hw))
  replace F_taking := F_taking.other W2 (Or.inr (own_sn_WeightTree_taking_climbsBetweenRebases hw))
  replace F_rising := F_rising.other W2 (Or.inr (own_sn_WeightTree_rising_climbsBetweenRebases hw))
  replace F_risingCount := F_risingCount.other W2 (Or.inr (own_sn_WeightTree_risingCount_climbsBetweenRebases hw))
  replace hn := Nat.le_trans hn (Keep.of_wr W2).1
  clear W2 X1 e1
  refine own_go (mkF m 10 #[rv t, rv w, jv y, .second, .unset, .unset] [(.ref t)]) (fun t' k => XS.aloadN X2.here hx rfl (hb hby own_dI_9) rfl rfl  k) ?_
  refine own_go (mkF m 11 #[rv t, rv w, jv y, .second, .unset, .unset] [(.ref w), (.ref t)]) (fun t' k => XS.aloadN X2.here hx rfl (hb hby own_dI_10) rfl rfl  k) ?_
  refine X2.putF hx hZ hown (hw _ (List.mem_of_getElem? (i := 13) rfl)) e2 F_weights E_t g_t (Or.inr ⟨(hw _ (List.mem_of_getElem? (i := 14) rfl)), rfl, hnm⟩) (hw _ (List.mem_of_getElem? (i := 2) rfl)) (ty := (.array .long)) (by decide) rfl rfl (hb hby own_dI_11) ?_
  intro T3 h3 X3 e3 W3
  replace E_t := E_t.wr W3
  replace A_w := A_w.other W3 (Ne.symm ne_t_w)
  replace F_climbsBetweenRebases := F_climbsBetweenRebases.other W3 (Or.inr (own_sn_WeightTree_climbsBetweenRebases_weights hw))
  replace F_weights := F_weights.same W3
  replace F_present := F_present.other W3 (Or.inr (own_sn_WeightTree_present_weights hw))
  replace F_sums := F_sums.other W3 (Or.inr (own_sn_WeightTree_sums_weights hw))
  replace F_counts := F_counts.other W3 (Or.inr (own_sn_WeightTree_counts_weights hw))
  replace F_top := F_top.other W3 (Or.inr (own_sn_WeightTree_top_weights hw))
  replace F_total := F_total.other W3 (Or.inr (own_sn_WeightTree_total_weights hw))
  replace F_taking := F_taking.other W3 (Or.inr (own_sn_WeightTree_taking_weights hw))
  replace F_rising := F_rising.other W3 (Or.inr (own_sn_WeightTree_rising_weights hw))
  replace F_risingCount := F_risingCount.other W3 (Or.inr (own_sn_WeightTree_risingCount_weights hw))
  replace hn := Nat.le_trans hn (Keep.of_wr W3).1
  clear W3 X2 e2
  refine own_go (mkF m 15 #[rv t, rv w, jv y, .second, .unset, .unset] [(.ref t)]) (fun t' k => XS.aloadN X3.here hx rfl (hb hby own_dI_14) rfl rfl  k) ?_
  refine own_go (mkF m 16 #[rv t, rv w, jv y, .second, .unset, .unset] [(.ref w), (.ref t)]) (fun t' k => XS.aloadN X3.here hx rfl (hb hby own_dI_15) rfl rfl  k) ?_
  refine X3.aleno hx hZ e3 A_w (hb hby own_dI_16) ?_
  show own_G p e below s _ _ _ T3 (mkF m 17 #[rv t, rv w, jv y, .second, .unset, .unset] [(.int (6 : Int32)), (.ref t)])
  refine X3.newP hx hZ (hw _ (List.mem_of_getElem? (i := 15) rfl)) e3 6 (by decide) (hb hby own_dI_17) 6 (by decide) (by decide) (by decide) (by decide) ?_
  intro T4 h4 b4 X4 e4 q4 xt4 A_b4
  have g_b4 : n0 ≤ b4 := by rw [q4]; exact hn
  have lt_t_b4 : t < b4 := by rw [q4]; exact E_t.lt
  have lt_w_b4 : w < b4 := by rw [q4]; exact A_w.lt
  replace E_t := E_t.ext xt4
  replace A_w := A_w.ext xt4
  replace F_climbsBetweenRebases := F_climbsBetweenRebases.ext xt4
  replace F_weights := F_weights.ext xt4
  replace F_present := F_present.ext xt4
  replace F_sums := F_sums.ext xt4
  replace F_counts := F_counts.ext xt4
  replace F_top := F_top.ext xt4
  replace F_total := F_total.ext xt4
  replace F_taking := F_taking.ext xt4
  replace F_rising := F_rising.ext xt4
  replace F_risingCount := F_risingCount.ext xt4
  replace hn := Nat.le_trans hn xt4.1
  replace A_b4 : own_O Z h4 .boolean b4 6 own_isI := own_O.rep A_b4 ⟨_, rfl⟩
  refine X4.putF hx hZ hown (hw _ (List.mem_of_getElem? (i := 16) rfl)) e4 F_present E_t g_t (Or.inr ⟨(hw _ (List.mem_of_getElem? (i := 17) rfl)), rfl, hnm⟩) (hw _ (List.mem_of_getElem? (i := 2) rfl)) (ty := (.array .boolean)) (by decide) rfl rfl (hb hby own_dI_19) ?_
  intro T5 h5 X5 e5 W5
  replace E_t := E_t.wr W5
  replace A_w := A_w.other W5 (Ne.symm ne_t_w)
  replace F_climbsBetweenRebases := F_climbsBetweenRebases.other W5 (Or.inr (own_sn_WeightTree_climbsBetweenRebases_present hw))
  replace F_weights := F_weights.other W5 (Or.inr (own_sn_WeightTree_weights_present hw))
  replace F_present := F_present.same W5
  replace F_sums := F_sums.other W5 (Or.inr (own_sn_WeightTree_sums_present hw))
  replace F_counts := F_counts.other W5 (Or.inr (own_sn_WeightTree_counts_present hw))
  replace F_top := F_top.other W5 (Or.inr (own_sn_WeightTree_top_present hw))
  replace F_total := F_total.other W5 (Or.inr (own_sn_WeightTree_total_present hw))
  replace F_taking := F_taking.other W5 (Or.inr (own_sn_WeightTree_taking_present hw))
  replace F_rising := F_rising.other W5 (Or.inr (own_sn_WeightTree_rising_present hw))
  replace F_risingCount := F_risingCount.other W5 (Or.inr (own_sn_WeightTree_risingCount_present hw))
  replace A_b4 := A_b4.other W5 (Ne.symm (Nat.ne_of_lt lt_t_b4))
  replace hn := Nat.le_trans hn (Keep.of_wr W5).1
  clear W5 X4 e4
  refine own_go (mkF m 23 #[rv t, rv w, jv y, .second, .unset, .unset] [(.ref t)]) (fun t' k => XS.aloadN X5.here hx rfl (hb hby own_dI_22) rfl rfl  k) ?_
  refine own_go (mkF m 24 #[rv t, rv w, jv y, .second, .unset, .unset] [(.ref w), (.ref t)]) (fun t' k => XS.aloadN X5.here hx rfl (hb hby own_dI_23) rfl rfl  k) ?_
  refine X5.aleno hx hZ e5 A_w (hb hby own_dI_24) ?_
  show own_G p e below s _ _ _ T5 (mkF m 25 #[rv t, rv w, jv y, .second, .unset, .unset] [(.int (6 : Int32)), (.ref t)])
  refine own_go (mkF m 26 #[rv t, rv w, jv y, .second, .unset, .unset] [(.int (1 : Int32)), (.int (6 : Int32)), (.ref t)]) (fun t' k => XS.iconst X5.here hx rfl (hb hby own_dI_25) k) ?_
  refine own_go (mkF m 27 #[rv t, rv w, jv y, .second, .unset, .unset] [(.int (7 : Int32)), (.ref t)]) (fun t' k => XS.iadd X5.here hx rfl (hb hby own_dI_26) rfl k) ?_
  refine X5.newP hx hZ (hw _ (List.mem_of_getElem? (i := 0) rfl)) e5 7 (by decide) (hb hby own_dI_27) 7 (by decide) (by decide) (by decide) (by decide) ?_
  intro T6 h6 b6 X6 e6 q6 xt6 A_b6
  have g_b6 : n0 ≤ b6 := by rw [q6]; exact hn
  have lt_t_b6 : t < b6 := by rw [q6]; exact E_t.lt
  have lt_w_b6 : w < b6 := by rw [q6]; exact A_w.lt
  have lt_b4_b6 : b4 < b6 := by rw [q6]; exact A_b4.lt
  replace E_t := E_t.ext xt6
  replace A_w := A_w.ext xt6
  replace F_climbsBetweenRebases := F_climbsBetweenRebases.ext xt6
  replace F_weights := F_weights.ext xt6
  replace F_present := F_present.ext xt6
  replace F_sums := F_sums.ext xt6
  replace F_counts := F_counts.ext xt6
  replace F_top := F_top.ext xt6
  replace F_total := F_total.ext xt6
  replace F_taking := F_taking.ext xt6
  replace F_rising := F_rising.ext xt6
  replace F_risingCount := F_risingCount.ext xt6
  replace A_b4 := A_b4.ext xt6
  replace hn := Nat.le_trans hn xt6.1
  replace A_b6 : own_O Z h6 .long b6 7 own_isJ := own_O.rep A_b6 ⟨_, rfl⟩
  refine X6.putF hx hZ hown (hw _ (List.mem_of_getElem? (i := 18) rfl)) e6 F_sums E_t g_t (Or.inr ⟨(hw _ (List.mem_of_getElem? (i := 19) rfl)), rfl, hnm⟩) (hw _ (List.mem_of_getElem? (i := 2) rfl)) (ty := (.array .long)) (by decide) rfl rfl (hb hby own_dI_29) ?_
  intro T7 h7 X7 e7 W7
  replace E_t := E_t.wr W7
  replace A_w := A_w.other W7 (Ne.symm ne_t_w)
  replace F_climbsBetweenRebases := F_climbsBetweenRebases.other W7 (Or.inr (own_sn_WeightTree_climbsBetweenRebases_sums hw))
  replace F_weights := F_weights.other W7 (Or.inr (own_sn_WeightTree_weights_sums hw))
  replace F_present := F_present.other W7 (Or.inr (own_sn_WeightTree_present_sums hw))
  replace F_sums := F_sums.same W7
  replace F_counts := F_counts.other W7 (Or.inr (own_sn_WeightTree_counts_sums hw))
  replace F_top := F_top.other W7 (Or.inr (own_sn_WeightTree_top_sums hw))
  replace F_total := F_total.other W7 (Or.inr (own_sn_WeightTree_total_sums hw))
  replace F_taking := F_taking.other W7 (Or.inr (own_sn_WeightTree_taking_sums hw))
  replace F_rising := F_rising.other W7 (Or.inr (own_sn_WeightTree_rising_sums hw))
  replace F_risingCount := F_risingCount.other W7 (Or.inr (own_sn_WeightTree_risingCount_sums hw))
  replace A_b4 := A_b4.other W7 (Ne.symm (Nat.ne_of_lt lt_t_b4))
  replace A_b6 := A_b6.other W7 (Ne.symm (Nat.ne_of_lt lt_t_b6))
  replace hn := Nat.le_trans hn (Keep.of_wr W7).1
  clear W7 X6 e6
  refine own_go (mkF m 33 #[rv t, rv w, jv y, .second, .unset, .unset] [(.ref t)]) (fun t' k => XS.aloadN X7.here hx rfl (hb hby own_dI_32) rfl rfl  k) ?_
  refine own_go (mkF m 34 #[rv t, rv w, jv y, .second, .unset, .unset] [(.ref w), (.ref t)]) (fun t' k => XS.aloadN X7.here hx rfl (hb hby own_dI_33) rfl rfl  k) ?_
  refine X7.aleno hx hZ e7 A_w (hb hby own_dI_34) ?_
  show own_G p e below s _ _ _ T7 (mkF m 35 #[rv t, rv w, jv y, .second, .unset, .unset] [(.int (6 : Int32)), (.ref t)])
  refine own_go (mkF m 36 #[rv t, rv w, jv y, .second, .unset, .unset] [(.int (1 : Int32)), (.int (6 : Int32)), (.ref t)]) (fun t' k => XS.iconst X7.here hx rfl (hb hby own_dI_35) k) ?_
  refine own_go (mkF m 37 #[rv t, rv w, jv y, .second, .unset, .unset] [(.int (7 : Int32)), (.ref t)]) (fun t' k => XS.iadd X7.here hx rfl (hb hby own_dI_36) rfl k) ?_
  refine X7.newP hx hZ (hw _ (List.mem_of_getElem? (i := 20) rfl)) e7 7 (by decide) (hb hby own_dI_37) 7 (by decide) (by decide) (by decide) (by decide) ?_
  intro T8 h8 b8 X8 e8 q8 xt8 A_b8
  have g_b8 : n0 ≤ b8 := by rw [q8]; exact hn
  have lt_t_b8 : t < b8 := by rw [q8]; exact E_t.lt
  have lt_w_b8 : w < b8 := by rw [q8]; exact A_w.lt
  have lt_b4_b8 : b4 < b8 := by rw [q8]; exact A_b4.lt
  have lt_b6_b8 : b6 < b8 := by rw [q8]; exact A_b6.lt
  replace E_t := E_t.ext xt8
  replace A_w := A_w.ext xt8
  replace F_climbsBetweenRebases := F_climbsBetweenRebases.ext xt8
  replace F_weights := F_weights.ext xt8
  replace F_present := F_present.ext xt8
  replace F_sums := F_sums.ext xt8
  replace F_counts := F_counts.ext xt8
  replace F_top := F_top.ext xt8
  replace F_total := F_total.ext xt8
  replace F_taking := F_taking.ext xt8
  replace F_rising := F_rising.ext xt8
  replace F_risingCount := F_risingCount.ext xt8
  replace A_b4 := A_b4.ext xt8
  replace A_b6 := A_b6.ext xt8
  replace hn := Nat.le_trans hn xt8.1
  replace A_b8 : own_A Z h8 .int b8 [(.int (0 : Int32)), (.int (0 : Int32)), (.int (0 : Int32)), (.int (0 : Int32)), (.int (0 : Int32)), (.int (0 : Int32)), (.int (0 : Int32))] := A_b8
  refine X8.putF hx hZ hown (hw _ (List.mem_of_getElem? (i := 21) rfl)) e8 F_counts E_t g_t (Or.inr ⟨(hw _ (List.mem_of_getElem? (i := 22) rfl)), rfl, hnm⟩) (hw _ (List.mem_of_getElem? (i := 2) rfl)) (ty := (.array .int)) (by decide) rfl rfl (hb hby own_dI_39) ?_
  intro T9 h9 X9 e9 W9
  replace E_t := E_t.wr W9
  replace A_w := A_w.other W9 (Ne.symm ne_t_w)
  replace F_climbsBetweenRebases := F_climbsBetweenRebases.other W9 (Or.inr (own_sn_WeightTree_climbsBetweenRebases_counts hw))
  replace F_weights := F_weights.other W9 (Or.inr (own_sn_WeightTree_weights_counts hw))
  replace F_present := F_present.other W9 (Or.inr (own_sn_WeightTree_present_counts hw))
  replace F_sums := F_sums.other W9 (Or.inr (own_sn_WeightTree_sums_counts hw))
  replace F_counts := F_counts.same W9
  replace F_top := F_top.other W9 (Or.inr (own_sn_WeightTree_top_counts hw))
  replace F_total := F_total.other W9 (Or.inr (own_sn_WeightTree_total_counts hw))
  replace F_taking := F_taking.other W9 (Or.inr (own_sn_WeightTree_taking_counts hw))
  replace F_rising := F_rising.other W9 (Or.inr (own_sn_WeightTree_rising_counts hw))
  replace F_risingCount := F_risingCount.other W9 (Or.inr (own_sn_WeightTree_risingCount_counts hw))
  replace A_b4 := A_b4.other W9 (Ne.symm (Nat.ne_of_lt lt_t_b4))
  replace A_b6 := A_b6.other W9 (Ne.symm (Nat.ne_of_lt lt_t_b6))
  replace A_b8 := A_b8.other W9 (Ne.symm (Nat.ne_of_lt lt_t_b8))
  replace hn := Nat.le_trans hn (Keep.of_wr W9).1
  clear W9 X8 e8
  refine own_go (mkF m 43 #[rv t, rv w, jv y, .second, .unset, .unset] [(.ref t)]) (fun t' k => XS.aloadN X9.here hx rfl (hb hby own_dI_42) rfl rfl  k) ?_
  refine own_go (mkF m 44 #[rv t, rv w, jv y, .second, .unset, .unset] [(.ref w), (.ref t)]) (fun t' k => XS.aloadN X9.here hx rfl (hb hby own_dI_43) rfl rfl  k) ?_
  refine X9.aleno hx hZ e9 A_w (hb hby own_dI_44) ?_
  show own_G p e below s _ _ _ T9 (mkF m 45 #[rv t, rv w, jv y, .second, .unset, .unset] [(.int (6 : Int32)), (.ref t)])
  refine X9.callP hx hZ (y := (⟨"java/lang/Integer", "highestOneBit", "(I)I"⟩ : MethodName)) (fr := 1) (lo := 15) (r := (.int (own_hob (6 : Int32)))) hown (hw _ (List.mem_of_getElem? (i := 23) rfl)) (hw _ (List.mem_of_getElem? (i := 24) rfl)) (hw _ (List.mem_of_getElem? (i := 25) rfl)) (hw _ (List.mem_of_getElem? (i := 26) rfl)) (by decide) e9 [(.int (6 : Int32))] [(.ref t)] (own_hobC l Z a0 hw [] h9 (6 : Int32)) 1 (by decide) (by decide) (Nat.le_of_eq rfl) (by decide) (by decide) (by rw [hml]; rfl) (lenOf own_pd0 rfl) rfl (hb hby own_dI_45) ?_
  intro T10 X10 e10
  rw [own_hob6]
  refine X10.putF hx hZ hown (hw _ (List.mem_of_getElem? (i := 32) rfl)) e10 F_top E_t g_t (Or.inr ⟨(hw _ (List.mem_of_getElem? (i := 33) rfl)), rfl, hnm⟩) (hw _ (List.mem_of_getElem? (i := 2) rfl)) (ty := .int) (by decide) rfl rfl (hb hby own_dI_48) ?_
  intro T11 h11 X11 e11 W11
  replace E_t := E_t.wr W11
  replace A_w := A_w.other W11 (Ne.symm ne_t_w)
  replace F_climbsBetweenRebases := F_climbsBetweenRebases.other W11 (Or.inr (own_sn_WeightTree_climbsBetweenRebases_top hw))
  replace F_weights := F_weights.other W11 (Or.inr (own_sn_WeightTree_weights_top hw))
  replace F_present := F_present.other W11 (Or.inr (own_sn_WeightTree_present_top hw))
  replace F_sums := F_sums.other W11 (Or.inr (own_sn_WeightTree_sums_top hw))
  replace F_counts := F_counts.other W11 (Or.inr (own_sn_WeightTree_counts_top hw))
  replace F_top := F_top.same W11
  replace F_total := F_total.other W11 (Or.inr (own_sn_WeightTree_total_top hw))
  replace F_taking := F_taking.other W11 (Or.inr (own_sn_WeightTree_taking_top hw))
  replace F_rising := F_rising.other W11 (Or.inr (own_sn_WeightTree_rising_top hw))
  replace F_risingCount := F_risingCount.other W11 (Or.inr (own_sn_WeightTree_risingCount_top hw))
  replace A_b4 := A_b4.other W11 (Ne.symm (Nat.ne_of_lt lt_t_b4))
  replace A_b6 := A_b6.other W11 (Ne.symm (Nat.ne_of_lt lt_t_b6))
  replace A_b8 := A_b8.other W11 (Ne.symm (Nat.ne_of_lt lt_t_b8))
  replace hn := Nat.le_trans hn (Keep.of_wr W11).1
  clear W11 X10 e10
  refine own_go (mkF m 52 #[rv t, rv w, jv y, .second, .unset, .unset] [(.int (1 : Int32))]) (fun t' k => XS.iconst X11.here hx rfl (hb hby own_dI_51) k) ?_
  refine own_go (mkF m 54 #[rv t, rv w, jv y, .second, iv (1 : Int32), .unset] []) (fun t' k => XS.istore X11.here hx rfl (hb hby own_dI_52) rfl (l' := #[rv t, rv w, jv y, .second, iv (1 : Int32), .unset]) rfl k) ?_
  refine own_go (mkF m 56 #[rv t, rv w, jv y, .second, iv (1 : Int32), .unset] [(.int (1 : Int32))]) (fun t' k => XS.iload X11.here hx rfl (hb hby own_dI_54) rfl  k) ?_
  refine own_go (mkF m 57 #[rv t, rv w, jv y, .second, iv (1 : Int32), .unset] [(.ref w), (.int (1 : Int32))]) (fun t' k => XS.aloadN X11.here hx rfl (hb hby own_dI_56) rfl rfl  k) ?_
  refine X11.aleno hx hZ e11 A_w (hb hby own_dI_57) ?_
  show own_G p e below s _ _ _ T11 (mkF m 58 #[rv t, rv w, jv y, .second, iv (1 : Int32), .unset] [(.int (6 : Int32)), (.int (1 : Int32))])
  refine own_go (mkF m 61 #[rv t, rv w, jv y, .second, iv (1 : Int32), .unset] []) (fun t' k => XS.icmpNo X11.here hx rfl (hb hby own_dI_58) rfl (flt (by decide)).2.2.1 k) ?_
  refine own_go (mkF m 62 #[rv t, rv w, jv y, .second, iv (1 : Int32), .unset] [(.ref t)]) (fun t' k => XS.aloadN X11.here hx rfl (hb hby own_dI_61) rfl rfl  k) ?_
  refine X11.getF hx hZ hown (hw _ (List.mem_of_getElem? (i := 16) rfl)) e11 F_present (hb hby own_dI_62) ?_
  intro T12 X12 e12
  refine own_go (mkF m 67 #[rv t, rv w, jv y, .second, iv (1 : Int32), .unset] [(.int (1 : Int32)), (.ref b4)]) (fun t' k => XS.iload X12.here hx rfl (hb hby own_dI_65) rfl  k) ?_
  refine own_go (mkF m 68 #[rv t, rv w, jv y, .second, iv (1 : Int32), .unset] [(.int (1 : Int32)), (.int (1 : Int32)), (.ref b4)]) (fun t' k => XS.iconst X12.here hx rfl (hb hby own_dI_67) k) ?_
  refine own_go (mkF m 69 #[rv t, rv w, jv y, .second, iv (1 : Int32), .unset] [(.int (0 : Int32)), (.ref b4)]) (fun t' k => XS.isub X12.here hx rfl (hb hby own_dI_68) rfl k) ?_
  refine own_go (mkF m 70 #[rv t, rv w, jv y, .second, iv (1 : Int32), .unset] [(.int (1 : Int32)), (.int (0 : Int32)), (.ref b4)]) (fun t' k => XS.iconst X12.here hx rfl (hb hby own_dI_69) k) ?_
  refine X12.stZo hx hZ e12 A_b4 g_b4 0 (by decide) (by decide) ⟨_, rfl⟩ (hb hby own_dI_70) ?_
  intro T13 h13 X13 e13 W13 A13
  replace A_b4 := A13
  replace E_t := E_t.wr W13
  replace A_w := A_w.other W13 (Nat.ne_of_lt lt_w_b4)
  replace F_climbsBetweenRebases := F_climbsBetweenRebases.other W13 (Or.inl (Nat.ne_of_lt lt_t_b4))
  replace F_weights := F_weights.other W13 (Or.inl (Nat.ne_of_lt lt_t_b4))
  replace F_present := F_present.other W13 (Or.inl (Nat.ne_of_lt lt_t_b4))
  replace F_sums := F_sums.other W13 (Or.inl (Nat.ne_of_lt lt_t_b4))
  replace F_counts := F_counts.other W13 (Or.inl (Nat.ne_of_lt lt_t_b4))
  replace F_top := F_top.other W13 (Or.inl (Nat.ne_of_lt lt_t_b4))
  replace F_total := F_total.other W13 (Or.inl (Nat.ne_of_lt lt_t_b4))
  replace F_taking := F_taking.other W13 (Or.inl (Nat.ne_of_lt lt_t_b4))
  replace F_rising := F_rising.other W13 (Or.inl (Nat.ne_of_lt lt_t_b4))
  replace F_risingCount := F_risingCount.other W13 (Or.inl (Nat.ne_of_lt lt_t_b4))
  replace A_b6 := A_b6.other W13 (Ne.symm (Nat.ne_of_lt lt_b4_b6))
  replace A_b8 := A_b8.other W13 (Ne.symm (Nat.ne_of_lt lt_b4_b8))
  replace hn := Nat.le_trans hn (Keep.of_wr W13).1
  clear W13 X12 e12
  refine own_go (mkF m 72 #[rv t, rv w, jv y, .second, iv (1 : Int32), .unset] [(.ref t)]) (fun t' k => XS.aloadN X13.here hx rfl (hb hby own_dI_71) rfl rfl  k) ?_
  refine X13.getF hx hZ hown (hw _ (List.mem_of_getElem? (i := 18) rfl)) e13 F_sums (hb hby own_dI_72) ?_
  intro T14 X14 e14
  refine own_go (mkF m 77 #[rv t, rv w, jv y, .second, iv (1 : Int32), .unset] [(.int (1 : Int32)), (.ref b6)]) (fun t' k => XS.iload X14.here hx rfl (hb hby own_dI_75) rfl  k) ?_
  refine own_go (mkF m 78 #[rv t, rv w, jv y, .second, iv (1 : Int32), .unset] [(.int (1 : Int32)), (.ref b6), (.int (1 : Int32)), (.ref b6)]) (fun t' k => Jvm.Free.XT.dup2 X14.here hx rfl (hb hby own_dI_77) rfl rfl rfl k) ?_
  refine X14.ldJo hx hZ e14 A_b6 1 (by decide) (by decide) (hb hby own_dI_78) ?_
  rintro _ ⟨y15, rfl⟩
  refine own_go (mkF m 80 #[rv t, rv w, jv y, .second, iv (1 : Int32), .unset] [(.ref w), (.long y15), (.int (1 : Int32)), (.ref b6)]) (fun t' k => XS.aloadN X14.here hx rfl (hb hby own_dI_79) rfl rfl  k) ?_
  refine own_go (mkF m 82 #[rv t, rv w, jv y, .second, iv (1 : Int32), .unset] [(.int (1 : Int32)), (.ref w), (.long y15), (.int (1 : Int32)), (.ref b6)]) (fun t' k => XS.iload X14.here hx rfl (hb hby own_dI_80) rfl  k) ?_
  refine own_go (mkF m 83 #[rv t, rv w, jv y, .second, iv (1 : Int32), .unset] [(.int (1 : Int32)), (.int (1 : Int32)), (.ref w), (.long y15), (.int (1 : Int32)), (.ref b6)]) (fun t' k => XS.iconst X14.here hx rfl (hb hby own_dI_82) k) ?_
  refine own_go (mkF m 84 #[rv t, rv w, jv y, .second, iv (1 : Int32), .unset] [(.int (0 : Int32)), (.ref w), (.long y15), (.int (1 : Int32)), (.ref b6)]) (fun t' k => XS.isub X14.here hx rfl (hb hby own_dI_83) rfl k) ?_
  refine X14.ldJo hx hZ e14 A_w 0 (by decide) (by decide) (hb hby own_dI_84) ?_
  rintro _ ⟨y16, rfl⟩
  refine own_go (mkF m 86 #[rv t, rv w, jv y, .second, iv (1 : Int32), .unset] [(.long (y15 + y16)), (.int (1 : Int32)), (.ref b6)]) (fun t' k => XS.ladd X14.here hx rfl (hb hby own_dI_85) rfl k) ?_
  refine X14.stJo hx hZ e14 A_b6 g_b6 1 (by decide) (by decide) ⟨_, rfl⟩ (hb hby own_dI_86) ?_
  intro T17 h17 X17 e17 W17 A17
  replace A_b6 := A17
  replace E_t := E_t.wr W17
  replace A_w := A_w.other W17 (Nat.ne_of_lt lt_w_b6)
  replace F_climbsBetweenRebases := F_climbsBetweenRebases.other W17 (Or.inl (Nat.ne_of_lt lt_t_b6))
  replace F_weights := F_weights.other W17 (Or.inl (Nat.ne_of_lt lt_t_b6))
  replace F_present := F_present.other W17 (Or.inl (Nat.ne_of_lt lt_t_b6))
  replace F_sums := F_sums.other W17 (Or.inl (Nat.ne_of_lt lt_t_b6))
  replace F_counts := F_counts.other W17 (Or.inl (Nat.ne_of_lt lt_t_b6))
  replace F_top := F_top.other W17 (Or.inl (Nat.ne_of_lt lt_t_b6))
  replace F_total := F_total.other W17 (Or.inl (Nat.ne_of_lt lt_t_b6))
  replace F_taking := F_taking.other W17 (Or.inl (Nat.ne_of_lt lt_t_b6))
  replace F_rising := F_rising.other W17 (Or.inl (Nat.ne_of_lt lt_t_b6))
  replace F_risingCount := F_risingCount.other W17 (Or.inl (Nat.ne_of_lt lt_t_b6))
  replace A_b4 := A_b4.other W17 (Nat.ne_of_lt lt_b4_b6)
  replace A_b8 := A_b8.other W17 (Ne.symm (Nat.ne_of_lt lt_b6_b8))
  replace hn := Nat.le_trans hn (Keep.of_wr W17).1
  clear W17 X14 e14
  refine own_go (mkF m 88 #[rv t, rv w, jv y, .second, iv (1 : Int32), .unset] [(.ref t)]) (fun t' k => XS.aloadN X17.here hx rfl (hb hby own_dI_87) rfl rfl  k) ?_
  refine X17.getF hx hZ hown (hw _ (List.mem_of_getElem? (i := 21) rfl)) e17 F_counts (hb hby own_dI_88) ?_
  intro T18 X18 e18
  refine own_go (mkF m 93 #[rv t, rv w, jv y, .second, iv (1 : Int32), .unset] [(.int (1 : Int32)), (.ref b8)]) (fun t' k => XS.iload X18.here hx rfl (hb hby own_dI_91) rfl  k) ?_
  refine own_go (mkF m 94 #[rv t, rv w, jv y, .second, iv (1 : Int32), .unset] [(.int (1 : Int32)), (.ref b8), (.int (1 : Int32)), (.ref b8)]) (fun t' k => Jvm.Free.XT.dup2 X18.here hx rfl (hb hby own_dI_93) rfl rfl rfl k) ?_
  refine X18.ldI hx hZ e18 A_b8 (v := (.int (0 : Int32))) 1 (by decide) rfl (hb hby own_dI_94) ?_
  refine own_go (mkF m 96 #[rv t, rv w, jv y, .second, iv (1 : Int32), .unset] [(.int (1 : Int32)), (.int (0 : Int32)), (.int (1 : Int32)), (.ref b8)]) (fun t' k => XS.iconst X18.here hx rfl (hb hby own_dI_95) k) ?_
  refine own_go (mkF m 97 #[rv t, rv w, jv y, .second, iv (1 : Int32), .unset] [(.int (1 : Int32)), (.int (1 : Int32)), (.ref b8)]) (fun t' k => XS.iadd X18.here hx rfl (hb hby own_dI_96) rfl k) ?_
  refine X18.stI hx hZ e18 A_b8 g_b8 1 (by decide) (Nat.le_of_ble_eq_true rfl) (hb hby own_dI_97) ?_
  intro T19 h19 X19 e19 W19 A19
  replace A_b8 : own_A Z h19 .int b8 [(.int (0 : Int32)), (.int (1 : Int32)), (.int (0 : Int32)), (.int (0 : Int32)), (.int (0 : Int32)), (.int (0 : Int32)), (.int (0 : Int32))] := A19
  clear A19
  replace E_t := E_t.wr W19
  replace A_w := A_w.other W19 (Nat.ne_of_lt lt_w_b8)
  replace F_climbsBetweenRebases := F_climbsBetweenRebases.other W19 (Or.inl (Nat.ne_of_lt lt_t_b8))
  replace F_weights := F_weights.other W19 (Or.inl (Nat.ne_of_lt lt_t_b8))
  replace F_present := F_present.other W19 (Or.inl (Nat.ne_of_lt lt_t_b8))
  replace F_sums := F_sums.other W19 (Or.inl (Nat.ne_of_lt lt_t_b8))
  replace F_counts := F_counts.other W19 (Or.inl (Nat.ne_of_lt lt_t_b8))
  replace F_top := F_top.other W19 (Or.inl (Nat.ne_of_lt lt_t_b8))
  replace F_total := F_total.other W19 (Or.inl (Nat.ne_of_lt lt_t_b8))
  replace F_taking := F_taking.other W19 (Or.inl (Nat.ne_of_lt lt_t_b8))
  replace F_rising := F_rising.other W19 (Or.inl (Nat.ne_of_lt lt_t_b8))
  replace F_risingCount := F_risingCount.other W19 (Or.inl (Nat.ne_of_lt lt_t_b8))
  replace A_b4 := A_b4.other W19 (Nat.ne_of_lt lt_b4_b8)
  replace A_b6 := A_b6.other W19 (Nat.ne_of_lt lt_b6_b8)
  replace hn := Nat.le_trans hn (Keep.of_wr W19).1
  clear W19 X18 e18
  refine own_go (mkF m 99 #[rv t, rv w, jv y, .second, iv (1 : Int32), .unset] [(.ref t)]) (fun t' k => XS.aloadN X19.here hx rfl (hb hby own_dI_98) rfl rfl  k) ?_
  refine own_go (mkF m 100 #[rv t, rv w, jv y, .second, iv (1 : Int32), .unset] [(.ref t), (.ref t)]) (fun t' k => XS.dup X19.here hx rfl (hb hby own_dI_99) rfl rfl k) ?_
  refine X19.getF hx hZ hown (hw _ (List.mem_of_getElem? (i := 34) rfl)) e19 F_total (hb hby own_dI_100) ?_
  intro T20 X20 e20
  refine own_go (mkF m 104 #[rv t, rv w, jv y, .second, iv (1 : Int32), .unset] [(.ref w), (.long (0 : Int64)), (.ref t)]) (fun t' k => XS.aloadN X20.here hx rfl (hb hby own_dI_103) rfl rfl  k) ?_
  refine own_go (mkF m 106 #[rv t, rv w, jv y, .second, iv (1 : Int32), .unset] [(.int (1 : Int32)), (.ref w), (.long (0 : Int64)), (.ref t)]) (fun t' k => XS.iload X20.here hx rfl (hb hby own_dI_104) rfl  k) ?_
  refine own_go (mkF m 107 #[rv t, rv w, jv y, .second, iv (1 : Int32), .unset] [(.int (1 : Int32)), (.int (1 : Int32)), (.ref w), (.long (0 : Int64)), (.ref t)]) (fun t' k => XS.iconst X20.here hx rfl (hb hby own_dI_106) k) ?_
  refine own_go (mkF m 108 #[rv t, rv w, jv y, .second, iv (1 : Int32), .unset] [(.int (0 : Int32)), (.ref w), (.long (0 : Int64)), (.ref t)]) (fun t' k => XS.isub X20.here hx rfl (hb hby own_dI_107) rfl k) ?_
  refine X20.ldJo hx hZ e20 A_w 0 (by decide) (by decide) (hb hby own_dI_108) ?_
  rintro _ ⟨y21, rfl⟩
  refine own_go (mkF m 110 #[rv t, rv w, jv y, .second, iv (1 : Int32), .unset] [(.long ((0 : Int64) + y21)), (.ref t)]) (fun t' k => XS.ladd X20.here hx rfl (hb hby own_dI_109) rfl k) ?_
  refine X20.putF hx hZ hown (hw _ (List.mem_of_getElem? (i := 34) rfl)) e20 F_total E_t g_t (Or.inl (hw _ (List.mem_of_getElem? (i := 35) rfl))) (hw _ (List.mem_of_getElem? (i := 2) rfl)) (ty := .long) (by decide) rfl rfl (hb hby own_dI_110) ?_
  intro T22 h22 X22 e22 W22
  replace E_t := E_t.wr W22
  replace A_w := A_w.other W22 (Ne.symm ne_t_w)
  replace F_climbsBetweenRebases := F_climbsBetweenRebases.other W22 (Or.inr (own_sn_WeightTree_climbsBetweenRebases_total hw))
  replace F_weights := F_weights.other W22 (Or.inr (own_sn_WeightTree_weights_total hw))
  replace F_present := F_present.other W22 (Or.inr (own_sn_WeightTree_present_total hw))
  replace F_sums := F_sums.other W22 (Or.inr (own_sn_WeightTree_sums_total hw))
  replace F_counts := F_counts.other W22 (Or.inr (own_sn_WeightTree_counts_total hw))
  replace F_top := F_top.other W22 (Or.inr (own_sn_WeightTree_top_total hw))
  replace F_total := F_total.same W22
  replace F_taking := F_taking.other W22 (Or.inr (own_sn_WeightTree_taking_total hw))
  replace F_rising := F_rising.other W22 (Or.inr (own_sn_WeightTree_rising_total hw))
  replace F_risingCount := F_risingCount.other W22 (Or.inr (own_sn_WeightTree_risingCount_total hw))
  replace A_b4 := A_b4.other W22 (Ne.symm (Nat.ne_of_lt lt_t_b4))
  replace A_b6 := A_b6.other W22 (Ne.symm (Nat.ne_of_lt lt_t_b6))
  replace A_b8 := A_b8.other W22 (Ne.symm (Nat.ne_of_lt lt_t_b8))
  replace hn := Nat.le_trans hn (Keep.of_wr W22).1
  clear W22 X20 e20
  generalize ((0 : Int64) + y21) = ug22 at F_total
  refine own_go (mkF m 114 #[rv t, rv w, jv y, .second, iv (1 : Int32), .unset] [(.ref t)]) (fun t' k => XS.aloadN X22.here hx rfl (hb hby own_dI_113) rfl rfl  k) ?_
  refine own_go (mkF m 115 #[rv t, rv w, jv y, .second, iv (1 : Int32), .unset] [(.ref t), (.ref t)]) (fun t' k => XS.dup X22.here hx rfl (hb hby own_dI_114) rfl rfl k) ?_
  refine X22.getF hx hZ hown (hw _ (List.mem_of_getElem? (i := 36) rfl)) e22 F_taking (hb hby own_dI_115) ?_
  intro T23 X23 e23
  refine own_go (mkF m 119 #[rv t, rv w, jv y, .second, iv (1 : Int32), .unset] [(.int (1 : Int32)), (.int (0 : Int32)), (.ref t)]) (fun t' k => XS.iconst X23.here hx rfl (hb hby own_dI_118) k) ?_
  refine own_go (mkF m 120 #[rv t, rv w, jv y, .second, iv (1 : Int32), .unset] [(.int (1 : Int32)), (.ref t)]) (fun t' k => XS.iadd X23.here hx rfl (hb hby own_dI_119) rfl k) ?_
  refine X23.putF hx hZ hown (hw _ (List.mem_of_getElem? (i := 36) rfl)) e23 F_taking E_t g_t (Or.inl (hw _ (List.mem_of_getElem? (i := 37) rfl))) (hw _ (List.mem_of_getElem? (i := 2) rfl)) (ty := .int) (by decide) rfl rfl (hb hby own_dI_120) ?_
  intro T24 h24 X24 e24 W24
  replace E_t := E_t.wr W24
  replace A_w := A_w.other W24 (Ne.symm ne_t_w)
  replace F_climbsBetweenRebases := F_climbsBetweenRebases.other W24 (Or.inr (own_sn_WeightTree_climbsBetweenRebases_taking hw))
  replace F_weights := F_weights.other W24 (Or.inr (own_sn_WeightTree_weights_taking hw))
  replace F_present := F_present.other W24 (Or.inr (own_sn_WeightTree_present_taking hw))
  replace F_sums := F_sums.other W24 (Or.inr (own_sn_WeightTree_sums_taking hw))
  replace F_counts := F_counts.other W24 (Or.inr (own_sn_WeightTree_counts_taking hw))
  replace F_top := F_top.other W24 (Or.inr (own_sn_WeightTree_top_taking hw))
  replace F_total := F_total.other W24 (Or.inr (own_sn_WeightTree_total_taking hw))
  replace F_taking := F_taking.same W24
  replace F_rising := F_rising.other W24 (Or.inr (own_sn_WeightTree_rising_taking hw))
  replace F_risingCount := F_risingCount.other W24 (Or.inr (own_sn_WeightTree_risingCount_taking hw))
  replace A_b4 := A_b4.other W24 (Ne.symm (Nat.ne_of_lt lt_t_b4))
  replace A_b6 := A_b6.other W24 (Ne.symm (Nat.ne_of_lt lt_t_b6))
  replace A_b8 := A_b8.other W24 (Ne.symm (Nat.ne_of_lt lt_t_b8))
  replace hn := Nat.le_trans hn (Keep.of_wr W24).1
  clear W24 X23 e23
  refine own_go (mkF m 125 #[rv t, rv w, jv y, .second, iv (1 : Int32), .unset] [(.int (1 : Int32))]) (fun t' k => XS.iload X24.here hx rfl (hb hby own_dI_123) rfl  k) ?_
  refine own_go (mkF m 127 #[rv t, rv w, jv y, .second, iv (1 : Int32), .unset] [(.int (1 : Int32)), (.int (1 : Int32))]) (fun t' k => XS.iload X24.here hx rfl (hb hby own_dI_125) rfl  k) ?_
  refine own_go (mkF m 129 #[rv t, rv w, jv y, .second, iv (1 : Int32), .unset] [(.int (1 : Int32)), (.int (1 : Int32)), (.int (1 : Int32))]) (fun t' k => XS.iload X24.here hx rfl (hb hby own_dI_127) rfl  k) ?_
  refine own_go (mkF m 130 #[rv t, rv w, jv y, .second, iv (1 : Int32), .unset] [(.int (-1 : Int32)), (.int (1 : Int32)), (.int (1 : Int32))]) (fun t' k => XS.ineg X24.here hx rfl (hb hby own_dI_129) rfl k) ?_
  refine own_go (mkF m 131 #[rv t, rv w, jv y, .second, iv (1 : Int32), .unset] [(.int (1 : Int32)), (.int (1 : Int32))]) (fun t' k => XS.iand X24.here hx rfl (hb hby own_dI_130) rfl k) ?_
  refine own_go (mkF m 132 #[rv t, rv w, jv y, .second, iv (1 : Int32), .unset] [(.int (2 : Int32))]) (fun t' k => XS.iadd X24.here hx rfl (hb hby own_dI_131) rfl k) ?_
  refine own_go (mkF m 134 #[rv t, rv w, jv y, .second, iv (1 : Int32), iv (2 : Int32)] []) (fun t' k => XS.istore X24.here hx rfl (hb hby own_dI_132) rfl (l' := #[rv t, rv w, jv y, .second, iv (1 : Int32), iv (2 : Int32)]) rfl k) ?_
  refine own_go (mkF m 136 #[rv t, rv w, jv y, .second, iv (1 : Int32), iv (2 : Int32)] [(.int (2 : Int32))]) (fun t' k => XS.iload X24.here hx rfl (hb hby own_dI_134) rfl  k) ?_
  refine own_go (mkF m 137 #[rv t, rv w, jv y, .second, iv (1 : Int32), iv (2 : Int32)] [(.ref w), (.int (2 : Int32))]) (fun t' k => XS.aloadN X24.here hx rfl (hb hby own_dI_136) rfl rfl  k) ?_
  refine X24.aleno hx hZ e24 A_w (hb hby own_dI_137) ?_
  show own_G p e below s _ _ _ T24 (mkF m 138 #[rv t, rv w, jv y, .second, iv (1 : Int32), iv (2 : Int32)] [(.int (6 : Int32)), (.int (2 : Int32))])
  refine own_go (mkF m 141 #[rv t, rv w, jv y, .second, iv (1 : Int32), iv (2 : Int32)] []) (fun t' k => XS.icmpNo X24.here hx rfl (hb hby own_dI_138) rfl (flt (by decide)).2.2.1 k) ?_
  refine own_go (mkF m 142 #[rv t, rv w, jv y, .second, iv (1 : Int32), iv (2 : Int32)] [(.ref t)]) (fun t' k => XS.aloadN X24.here hx rfl (hb hby own_dI_141) rfl rfl  k) ?_
  refine X24.getF hx hZ hown (hw _ (List.mem_of_getElem? (i := 18) rfl)) e24 F_sums (hb hby own_dI_142) ?_
  intro T25 X25 e25
  refine own_go (mkF m 147 #[rv t, rv w, jv y, .second, iv (1 : Int32), iv (2 : Int32)] [(.int (2 : Int32)), (.ref b6)]) (fun t' k => XS.iload X25.here hx rfl (hb hby own_dI_145) rfl  k) ?_
  refine own_go (mkF m 148 #[rv t, rv w, jv y, .second, iv (1 : Int32), iv (2 : Int32)] [(.int (2 : Int32)), (.ref b6), (.int (2 : Int32)), (.ref b6)]) (fun t' k => Jvm.Free.XT.dup2 X25.here hx rfl (hb hby own_dI_147) rfl rfl rfl k) ?_
  refine X25.ldJo hx hZ e25 A_b6 2 (by decide) (by decide) (hb hby own_dI_148) ?_
  rintro _ ⟨y26, rfl⟩
  refine own_go (mkF m 150 #[rv t, rv w, jv y, .second, iv (1 : Int32), iv (2 : Int32)] [(.ref t), (.long y26), (.int (2 : Int32)), (.ref b6)]) (fun t' k => XS.aloadN X25.here hx rfl (hb hby own_dI_149) rfl rfl  k) ?_
  refine X25.getF hx hZ hown (hw _ (List.mem_of_getElem? (i := 18) rfl)) e25 F_sums (hb hby own_dI_150) ?_
  intro T27 X27 e27
  refine own_go (mkF m 155 #[rv t, rv w, jv y, .second, iv (1 : Int32), iv (2 : Int32)] [(.int (1 : Int32)), (.ref b6), (.long y26), (.int (2 : Int32)), (.ref b6)]) (fun t' k => XS.iload X27.here hx rfl (hb hby own_dI_153) rfl  k) ?_
  refine X27.ldJo hx hZ e27 A_b6 1 (by decide) (by decide) (hb hby own_dI_155) ?_
  rintro _ ⟨y28, rfl⟩
  refine own_go (mkF m 157 #[rv t, rv w, jv y, .second, iv (1 : Int32), iv (2 : Int32)] [(.long (y26 + y28)), (.int (2 : Int32)), (.ref b6)]) (fun t' k => XS.ladd X27.here hx rfl (hb hby own_dI_156) rfl k) ?_
  refine X27.stJo hx hZ e27 A_b6 g_b6 2 (by decide) (by decide) ⟨_, rfl⟩ (hb hby own_dI_157) ?_
  intro T29 h29 X29 e29 W29 A29
  replace A_b6 := A29
  replace E_t := E_t.wr W29
  replace A_w := A_w.other W29 (Nat.ne_of_lt lt_w_b6)
  replace F_climbsBetweenRebases := F_climbsBetweenRebases.other W29 (Or.inl (Nat.ne_of_lt lt_t_b6))
  replace F_weights := F_weights.other W29 (Or.inl (Nat.ne_of_lt lt_t_b6))
  replace F_present := F_present.other W29 (Or.inl (Nat.ne_of_lt lt_t_b6))
  replace F_sums := F_sums.other W29 (Or.inl (Nat.ne_of_lt lt_t_b6))
  replace F_counts := F_counts.other W29 (Or.inl (Nat.ne_of_lt lt_t_b6))
  replace F_top := F_top.other W29 (Or.inl (Nat.ne_of_lt lt_t_b6))
  replace F_total := F_total.other W29 (Or.inl (Nat.ne_of_lt lt_t_b6))
  replace F_taking := F_taking.other W29 (Or.inl (Nat.ne_of_lt lt_t_b6))
  replace F_rising := F_rising.other W29 (Or.inl (Nat.ne_of_lt lt_t_b6))
  replace F_risingCount := F_risingCount.other W29 (Or.inl (Nat.ne_of_lt lt_t_b6))
  replace A_b4 := A_b4.other W29 (Nat.ne_of_lt lt_b4_b6)
  replace A_b8 := A_b8.other W29 (Ne.symm (Nat.ne_of_lt lt_b6_b8))
  replace hn := Nat.le_trans hn (Keep.of_wr W29).1
  clear W29 X27 e27
  refine own_go (mkF m 159 #[rv t, rv w, jv y, .second, iv (1 : Int32), iv (2 : Int32)] [(.ref t)]) (fun t' k => XS.aloadN X29.here hx rfl (hb hby own_dI_158) rfl rfl  k) ?_
  refine X29.getF hx hZ hown (hw _ (List.mem_of_getElem? (i := 21) rfl)) e29 F_counts (hb hby own_dI_159) ?_
  intro T30 X30 e30
  refine own_go (mkF m 164 #[rv t, rv w, jv y, .second, iv (1 : Int32), iv (2 : Int32)] [(.int (2 : Int32)), (.ref b8)]) (fun t' k => XS.iload X30.here hx rfl (hb hby own_dI_162) rfl  k) ?_
  refine own_go (mkF m 165 #[rv t, rv w, jv y, .second, iv (1 : Int32), iv (2 : Int32)] [(.int (2 : Int32)), (.ref b8), (.int (2 : Int32)), (.ref b8)]) (fun t' k => Jvm.Free.XT.dup2 X30.here hx rfl (hb hby own_dI_164) rfl rfl rfl k) ?_
  refine X30.ldI hx hZ e30 A_b8 (v := (.int (0 : Int32))) 2 (by decide) rfl (hb hby own_dI_165) ?_
  refine own_go (mkF m 167 #[rv t, rv w, jv y, .second, iv (1 : Int32), iv (2 : Int32)] [(.ref t), (.int (0 : Int32)), (.int (2 : Int32)), (.ref b8)]) (fun t' k => XS.aloadN X30.here hx rfl (hb hby own_dI_166) rfl rfl  k) ?_
  refine X30.getF hx hZ hown (hw _ (List.mem_of_getElem? (i := 21) rfl)) e30 F_counts (hb hby own_dI_167) ?_
  intro T31 X31 e31
  refine own_go (mkF m 172 #[rv t, rv w, jv y, .second, iv (1 : Int32), iv (2 : Int32)] [(.int (1 : Int32)), (.ref b8), (.int (0 : Int32)), (.int (2 : Int32)), (.ref b8)]) (fun t' k => XS.iload X31.here hx rfl (hb hby own_dI_170) rfl  k) ?_
  refine X31.ldI hx hZ e31 A_b8 (v := (.int (1 : Int32))) 1 (by decide) rfl (hb hby own_dI_172) ?_
  refine own_go (mkF m 174 #[rv t, rv w, jv y, .second, iv (1 : Int32), iv (2 : Int32)] [(.int (1 : Int32)), (.int (2 : Int32)), (.ref b8)]) (fun t' k => XS.iadd X31.here hx rfl (hb hby own_dI_173) rfl k) ?_
  refine X31.stI hx hZ e31 A_b8 g_b8 2 (by decide) (Nat.le_of_ble_eq_true rfl) (hb hby own_dI_174) ?_
  intro T32 h32 X32 e32 W32 A32
  replace A_b8 : own_A Z h32 .int b8 [(.int (0 : Int32)), (.int (1 : Int32)), (.int (1 : Int32)), (.int (0 : Int32)), (.int (0 : Int32)), (.int (0 : Int32)), (.int (0 : Int32))] := A32
  clear A32
  replace E_t := E_t.wr W32
  replace A_w := A_w.other W32 (Nat.ne_of_lt lt_w_b8)
  replace F_climbsBetweenRebases := F_climbsBetweenRebases.other W32 (Or.inl (Nat.ne_of_lt lt_t_b8))
  replace F_weights := F_weights.other W32 (Or.inl (Nat.ne_of_lt lt_t_b8))
  replace F_present := F_present.other W32 (Or.inl (Nat.ne_of_lt lt_t_b8))
  replace F_sums := F_sums.other W32 (Or.inl (Nat.ne_of_lt lt_t_b8))
  replace F_counts := F_counts.other W32 (Or.inl (Nat.ne_of_lt lt_t_b8))
  replace F_top := F_top.other W32 (Or.inl (Nat.ne_of_lt lt_t_b8))
  replace F_total := F_total.other W32 (Or.inl (Nat.ne_of_lt lt_t_b8))
  replace F_taking := F_taking.other W32 (Or.inl (Nat.ne_of_lt lt_t_b8))
  replace F_rising := F_rising.other W32 (Or.inl (Nat.ne_of_lt lt_t_b8))
  replace F_risingCount := F_risingCount.other W32 (Or.inl (Nat.ne_of_lt lt_t_b8))
  replace A_b4 := A_b4.other W32 (Nat.ne_of_lt lt_b4_b8)
  replace A_b6 := A_b6.other W32 (Nat.ne_of_lt lt_b6_b8)
  replace hn := Nat.le_trans hn (Keep.of_wr W32).1
  clear W32 X31 e31
  refine own_go (mkF m 178 #[rv t, rv w, jv y, .second, iv (2 : Int32), iv (2 : Int32)] []) (fun t' k => XS.iinc X32.here hx rfl (hb hby own_dI_175) rfl (l' := #[rv t, rv w, jv y, .second, iv (2 : Int32), iv (2 : Int32)]) rfl k) ?_
  refine own_go (mkF m 54 #[rv t, rv w, jv y, .second, iv (2 : Int32), iv (2 : Int32)] []) (fun t' k => XS.goto X32.here hx rfl (pc0 := 178) (pc' := 54) rfl (hb hby own_dI_178) (by decide) (by decide) k) ?_
  refine own_go (mkF m 56 #[rv t, rv w, jv y, .second, iv (2 : Int32), iv (2 : Int32)] [(.int (2 : Int32))]) (fun t' k => XS.iload X32.here hx rfl (hb hby own_dI_54) rfl  k) ?_
  refine own_go (mkF m 57 #[rv t, rv w, jv y, .second, iv (2 : Int32), iv (2 : Int32)] [(.ref w), (.int (2 : Int32))]) (fun t' k => XS.aloadN X32.here hx rfl (hb hby own_dI_56) rfl rfl  k) ?_
  refine X32.aleno hx hZ e32 A_w (hb hby own_dI_57) ?_
  show own_G p e below s _ _ _ T32 (mkF m 58 #[rv t, rv w, jv y, .second, iv (2 : Int32), iv (2 : Int32)] [(.int (6 : Int32)), (.int (2 : Int32))])
  refine own_go (mkF m 61 #[rv t, rv w, jv y, .second, iv (2 : Int32), iv (2 : Int32)] []) (fun t' k => XS.icmpNo X32.here hx rfl (hb hby own_dI_58) rfl (flt (by decide)).2.2.1 k) ?_
  refine own_go (mkF m 62 #[rv t, rv w, jv y, .second, iv (2 : Int32), iv (2 : Int32)] [(.ref t)]) (fun t' k => XS.aloadN X32.here hx rfl (hb hby own_dI_61) rfl rfl  k) ?_
  refine X32.getF hx hZ hown (hw _ (List.mem_of_getElem? (i := 16) rfl)) e32 F_present (hb hby own_dI_62) ?_
  intro T33 X33 e33
  refine own_go (mkF m 67 #[rv t, rv w, jv y, .second, iv (2 : Int32), iv (2 : Int32)] [(.int (2 : Int32)), (.ref b4)]) (fun t' k => XS.iload X33.here hx rfl (hb hby own_dI_65) rfl  k) ?_
  refine own_go (mkF m 68 #[rv t, rv w, jv y, .second, iv (2 : Int32), iv (2 : Int32)] [(.int (1 : Int32)), (.int (2 : Int32)), (.ref b4)]) (fun t' k => XS.iconst X33.here hx rfl (hb hby own_dI_67) k) ?_
  refine own_go (mkF m 69 #[rv t, rv w, jv y, .second, iv (2 : Int32), iv (2 : Int32)] [(.int (1 : Int32)), (.ref b4)]) (fun t' k => XS.isub X33.here hx rfl (hb hby own_dI_68) rfl k) ?_
  refine own_go (mkF m 70 #[rv t, rv w, jv y, .second, iv (2 : Int32), iv (2 : Int32)] [(.int (1 : Int32)), (.int (1 : Int32)), (.ref b4)]) (fun t' k => XS.iconst X33.here hx rfl (hb hby own_dI_69) k) ?_
  refine X33.stZo hx hZ e33 A_b4 g_b4 1 (by decide) (by decide) ⟨_, rfl⟩ (hb hby own_dI_70) ?_
  intro T34 h34 X34 e34 W34 A34
  replace A_b4 := A34
  replace E_t := E_t.wr W34
  replace A_w := A_w.other W34 (Nat.ne_of_lt lt_w_b4)
  replace F_climbsBetweenRebases := F_climbsBetweenRebases.other W34 (Or.inl (Nat.ne_of_lt lt_t_b4))
  replace F_weights := F_weights.other W34 (Or.inl (Nat.ne_of_lt lt_t_b4))
  replace F_present := F_present.other W34 (Or.inl (Nat.ne_of_lt lt_t_b4))
  replace F_sums := F_sums.other W34 (Or.inl (Nat.ne_of_lt lt_t_b4))
  replace F_counts := F_counts.other W34 (Or.inl (Nat.ne_of_lt lt_t_b4))
  replace F_top := F_top.other W34 (Or.inl (Nat.ne_of_lt lt_t_b4))
  replace F_total := F_total.other W34 (Or.inl (Nat.ne_of_lt lt_t_b4))
  replace F_taking := F_taking.other W34 (Or.inl (Nat.ne_of_lt lt_t_b4))
  replace F_rising := F_rising.other W34 (Or.inl (Nat.ne_of_lt lt_t_b4))
  replace F_risingCount := F_risingCount.other W34 (Or.inl (Nat.ne_of_lt lt_t_b4))
  replace A_b6 := A_b6.other W34 (Ne.symm (Nat.ne_of_lt lt_b4_b6))
  replace A_b8 := A_b8.other W34 (Ne.symm (Nat.ne_of_lt lt_b4_b8))
  replace hn := Nat.le_trans hn (Keep.of_wr W34).1
  clear W34 X33 e33
  refine own_go (mkF m 72 #[rv t, rv w, jv y, .second, iv (2 : Int32), iv (2 : Int32)] [(.ref t)]) (fun t' k => XS.aloadN X34.here hx rfl (hb hby own_dI_71) rfl rfl  k) ?_
  refine X34.getF hx hZ hown (hw _ (List.mem_of_getElem? (i := 18) rfl)) e34 F_sums (hb hby own_dI_72) ?_
  intro T35 X35 e35
  refine own_go (mkF m 77 #[rv t, rv w, jv y, .second, iv (2 : Int32), iv (2 : Int32)] [(.int (2 : Int32)), (.ref b6)]) (fun t' k => XS.iload X35.here hx rfl (hb hby own_dI_75) rfl  k) ?_
  refine own_go (mkF m 78 #[rv t, rv w, jv y, .second, iv (2 : Int32), iv (2 : Int32)] [(.int (2 : Int32)), (.ref b6), (.int (2 : Int32)), (.ref b6)]) (fun t' k => Jvm.Free.XT.dup2 X35.here hx rfl (hb hby own_dI_77) rfl rfl rfl k) ?_
  refine X35.ldJo hx hZ e35 A_b6 2 (by decide) (by decide) (hb hby own_dI_78) ?_
  rintro _ ⟨y36, rfl⟩
  refine own_go (mkF m 80 #[rv t, rv w, jv y, .second, iv (2 : Int32), iv (2 : Int32)] [(.ref w), (.long y36), (.int (2 : Int32)), (.ref b6)]) (fun t' k => XS.aloadN X35.here hx rfl (hb hby own_dI_79) rfl rfl  k) ?_
  refine own_go (mkF m 82 #[rv t, rv w, jv y, .second, iv (2 : Int32), iv (2 : Int32)] [(.int (2 : Int32)), (.ref w), (.long y36), (.int (2 : Int32)), (.ref b6)]) (fun t' k => XS.iload X35.here hx rfl (hb hby own_dI_80) rfl  k) ?_
  refine own_go (mkF m 83 #[rv t, rv w, jv y, .second, iv (2 : Int32), iv (2 : Int32)] [(.int (1 : Int32)), (.int (2 : Int32)), (.ref w), (.long y36), (.int (2 : Int32)), (.ref b6)]) (fun t' k => XS.iconst X35.here hx rfl (hb hby own_dI_82) k) ?_
  refine own_go (mkF m 84 #[rv t, rv w, jv y, .second, iv (2 : Int32), iv (2 : Int32)] [(.int (1 : Int32)), (.ref w), (.long y36), (.int (2 : Int32)), (.ref b6)]) (fun t' k => XS.isub X35.here hx rfl (hb hby own_dI_83) rfl k) ?_
  refine X35.ldJo hx hZ e35 A_w 1 (by decide) (by decide) (hb hby own_dI_84) ?_
  rintro _ ⟨y37, rfl⟩
  refine own_go (mkF m 86 #[rv t, rv w, jv y, .second, iv (2 : Int32), iv (2 : Int32)] [(.long (y36 + y37)), (.int (2 : Int32)), (.ref b6)]) (fun t' k => XS.ladd X35.here hx rfl (hb hby own_dI_85) rfl k) ?_
  refine X35.stJo hx hZ e35 A_b6 g_b6 2 (by decide) (by decide) ⟨_, rfl⟩ (hb hby own_dI_86) ?_
  intro T38 h38 X38 e38 W38 A38
  replace A_b6 := A38
  replace E_t := E_t.wr W38
  replace A_w := A_w.other W38 (Nat.ne_of_lt lt_w_b6)
  replace F_climbsBetweenRebases := F_climbsBetweenRebases.other W38 (Or.inl (Nat.ne_of_lt lt_t_b6))
  replace F_weights := F_weights.other W38 (Or.inl (Nat.ne_of_lt lt_t_b6))
  replace F_present := F_present.other W38 (Or.inl (Nat.ne_of_lt lt_t_b6))
  replace F_sums := F_sums.other W38 (Or.inl (Nat.ne_of_lt lt_t_b6))
  replace F_counts := F_counts.other W38 (Or.inl (Nat.ne_of_lt lt_t_b6))
  replace F_top := F_top.other W38 (Or.inl (Nat.ne_of_lt lt_t_b6))
  replace F_total := F_total.other W38 (Or.inl (Nat.ne_of_lt lt_t_b6))
  replace F_taking := F_taking.other W38 (Or.inl (Nat.ne_of_lt lt_t_b6))
  replace F_rising := F_rising.other W38 (Or.inl (Nat.ne_of_lt lt_t_b6))
  replace F_risingCount := F_risingCount.other W38 (Or.inl (Nat.ne_of_lt lt_t_b6))
  replace A_b4 := A_b4.other W38 (Nat.ne_of_lt lt_b4_b6)
  replace A_b8 := A_b8.other W38 (Ne.symm (Nat.ne_of_lt lt_b6_b8))
  replace hn := Nat.le_trans hn (Keep.of_wr W38).1
  clear W38 X35 e35
  refine own_go (mkF m 88 #[rv t, rv w, jv y, .second, iv (2 : Int32), iv (2 : Int32)] [(.ref t)]) (fun t' k => XS.aloadN X38.here hx rfl (hb hby own_dI_87) rfl rfl  k) ?_
  refine X38.getF hx hZ hown (hw _ (List.mem_of_getElem? (i := 21) rfl)) e38 F_counts (hb hby own_dI_88) ?_
  intro T39 X39 e39
  refine own_go (mkF m 93 #[rv t, rv w, jv y, .second, iv (2 : Int32), iv (2 : Int32)] [(.int (2 : Int32)), (.ref b8)]) (fun t' k => XS.iload X39.here hx rfl (hb hby own_dI_91) rfl  k) ?_
  refine own_go (mkF m 94 #[rv t, rv w, jv y, .second, iv (2 : Int32), iv (2 : Int32)] [(.int (2 : Int32)), (.ref b8), (.int (2 : Int32)), (.ref b8)]) (fun t' k => Jvm.Free.XT.dup2 X39.here hx rfl (hb hby own_dI_93) rfl rfl rfl k) ?_
  refine X39.ldI hx hZ e39 A_b8 (v := (.int (1 : Int32))) 2 (by decide) rfl (hb hby own_dI_94) ?_
  refine own_go (mkF m 96 #[rv t, rv w, jv y, .second, iv (2 : Int32), iv (2 : Int32)] [(.int (1 : Int32)), (.int (1 : Int32)), (.int (2 : Int32)), (.ref b8)]) (fun t' k => XS.iconst X39.here hx rfl (hb hby own_dI_95) k) ?_
  refine own_go (mkF m 97 #[rv t, rv w, jv y, .second, iv (2 : Int32), iv (2 : Int32)] [(.int (2 : Int32)), (.int (2 : Int32)), (.ref b8)]) (fun t' k => XS.iadd X39.here hx rfl (hb hby own_dI_96) rfl k) ?_
  refine X39.stI hx hZ e39 A_b8 g_b8 2 (by decide) (Nat.le_of_ble_eq_true rfl) (hb hby own_dI_97) ?_
  intro T40 h40 X40 e40 W40 A40
  replace A_b8 : own_A Z h40 .int b8 [(.int (0 : Int32)), (.int (1 : Int32)), (.int (2 : Int32)), (.int (0 : Int32)), (.int (0 : Int32)), (.int (0 : Int32)), (.int (0 : Int32))] := A40
  clear A40
  replace E_t := E_t.wr W40
  replace A_w := A_w.other W40 (Nat.ne_of_lt lt_w_b8)
  replace F_climbsBetweenRebases := F_climbsBetweenRebases.other W40 (Or.inl (Nat.ne_of_lt lt_t_b8))
  replace F_weights := F_weights.other W40 (Or.inl (Nat.ne_of_lt lt_t_b8))
  replace F_present := F_present.other W40 (Or.inl (Nat.ne_of_lt lt_t_b8))
  replace F_sums := F_sums.other W40 (Or.inl (Nat.ne_of_lt lt_t_b8))
  replace F_counts := F_counts.other W40 (Or.inl (Nat.ne_of_lt lt_t_b8))
  replace F_top := F_top.other W40 (Or.inl (Nat.ne_of_lt lt_t_b8))
  replace F_total := F_total.other W40 (Or.inl (Nat.ne_of_lt lt_t_b8))
  replace F_taking := F_taking.other W40 (Or.inl (Nat.ne_of_lt lt_t_b8))
  replace F_rising := F_rising.other W40 (Or.inl (Nat.ne_of_lt lt_t_b8))
  replace F_risingCount := F_risingCount.other W40 (Or.inl (Nat.ne_of_lt lt_t_b8))
  replace A_b4 := A_b4.other W40 (Nat.ne_of_lt lt_b4_b8)
  replace A_b6 := A_b6.other W40 (Nat.ne_of_lt lt_b6_b8)
  replace hn := Nat.le_trans hn (Keep.of_wr W40).1
  clear W40 X39 e39
  refine own_go (mkF m 99 #[rv t, rv w, jv y, .second, iv (2 : Int32), iv (2 : Int32)] [(.ref t)]) (fun t' k => XS.aloadN X40.here hx rfl (hb hby own_dI_98) rfl rfl  k) ?_
  refine own_go (mkF m 100 #[rv t, rv w, jv y, .second, iv (2 : Int32), iv (2 : Int32)] [(.ref t), (.ref t)]) (fun t' k => XS.dup X40.here hx rfl (hb hby own_dI_99) rfl rfl k) ?_
  refine X40.getF hx hZ hown (hw _ (List.mem_of_getElem? (i := 34) rfl)) e40 F_total (hb hby own_dI_100) ?_
  intro T41 X41 e41
  refine own_go (mkF m 104 #[rv t, rv w, jv y, .second, iv (2 : Int32), iv (2 : Int32)] [(.ref w), (.long ug22), (.ref t)]) (fun t' k => XS.aloadN X41.here hx rfl (hb hby own_dI_103) rfl rfl  k) ?_
  refine own_go (mkF m 106 #[rv t, rv w, jv y, .second, iv (2 : Int32), iv (2 : Int32)] [(.int (2 : Int32)), (.ref w), (.long ug22), (.ref t)]) (fun t' k => XS.iload X41.here hx rfl (hb hby own_dI_104) rfl  k) ?_
  refine own_go (mkF m 107 #[rv t, rv w, jv y, .second, iv (2 : Int32), iv (2 : Int32)] [(.int (1 : Int32)), (.int (2 : Int32)), (.ref w), (.long ug22), (.ref t)]) (fun t' k => XS.iconst X41.here hx rfl (hb hby own_dI_106) k) ?_
  refine own_go (mkF m 108 #[rv t, rv w, jv y, .second, iv (2 : Int32), iv (2 : Int32)] [(.int (1 : Int32)), (.ref w), (.long ug22), (.ref t)]) (fun t' k => XS.isub X41.here hx rfl (hb hby own_dI_107) rfl k) ?_
  refine X41.ldJo hx hZ e41 A_w 1 (by decide) (by decide) (hb hby own_dI_108) ?_
  rintro _ ⟨y42, rfl⟩
  refine own_go (mkF m 110 #[rv t, rv w, jv y, .second, iv (2 : Int32), iv (2 : Int32)] [(.long (ug22 + y42)), (.ref t)]) (fun t' k => XS.ladd X41.here hx rfl (hb hby own_dI_109) rfl k) ?_
  refine X41.putF hx hZ hown (hw _ (List.mem_of_getElem? (i := 34) rfl)) e41 F_total E_t g_t (Or.inl (hw _ (List.mem_of_getElem? (i := 35) rfl))) (hw _ (List.mem_of_getElem? (i := 2) rfl)) (ty := .long) (by decide) rfl rfl (hb hby own_dI_110) ?_
  intro T43 h43 X43 e43 W43
  replace E_t := E_t.wr W43
  replace A_w := A_w.other W43 (Ne.symm ne_t_w)
  replace F_climbsBetweenRebases := F_climbsBetweenRebases.other W43 (Or.inr (own_sn_WeightTree_climbsBetweenRebases_total hw))
  replace F_weights := F_weights.other W43 (Or.inr (own_sn_WeightTree_weights_total hw))
  replace F_present := F_present.other W43 (Or.inr (own_sn_WeightTree_present_total hw))
  replace F_sums := F_sums.other W43 (Or.inr (own_sn_WeightTree_sums_total hw))
  replace F_counts := F_counts.other W43 (Or.inr (own_sn_WeightTree_counts_total hw))
  replace F_top := F_top.other W43 (Or.inr (own_sn_WeightTree_top_total hw))
  replace F_total := F_total.same W43
  replace F_taking := F_taking.other W43 (Or.inr (own_sn_WeightTree_taking_total hw))
  replace F_rising := F_rising.other W43 (Or.inr (own_sn_WeightTree_rising_total hw))
  replace F_risingCount := F_risingCount.other W43 (Or.inr (own_sn_WeightTree_risingCount_total hw))
  replace A_b4 := A_b4.other W43 (Ne.symm (Nat.ne_of_lt lt_t_b4))
  replace A_b6 := A_b6.other W43 (Ne.symm (Nat.ne_of_lt lt_t_b6))
  replace A_b8 := A_b8.other W43 (Ne.symm (Nat.ne_of_lt lt_t_b8))
  replace hn := Nat.le_trans hn (Keep.of_wr W43).1
  clear W43 X41 e41
  generalize (ug22 + y42) = ug43 at F_total
  refine own_go (mkF m 114 #[rv t, rv w, jv y, .second, iv (2 : Int32), iv (2 : Int32)] [(.ref t)]) (fun t' k => XS.aloadN X43.here hx rfl (hb hby own_dI_113) rfl rfl  k) ?_
  refine own_go (mkF m 115 #[rv t, rv w, jv y, .second, iv (2 : Int32), iv (2 : Int32)] [(.ref t), (.ref t)]) (fun t' k => XS.dup X43.here hx rfl (hb hby own_dI_114) rfl rfl k) ?_
  refine X43.getF hx hZ hown (hw _ (List.mem_of_getElem? (i := 36) rfl)) e43 F_taking (hb hby own_dI_115) ?_
  intro T44 X44 e44
  refine own_go (mkF m 119 #[rv t, rv w, jv y, .second, iv (2 : Int32), iv (2 : Int32)] [(.int (1 : Int32)), (.int (1 : Int32)), (.ref t)]) (fun t' k => XS.iconst X44.here hx rfl (hb hby own_dI_118) k) ?_
  refine own_go (mkF m 120 #[rv t, rv w, jv y, .second, iv (2 : Int32), iv (2 : Int32)] [(.int (2 : Int32)), (.ref t)]) (fun t' k => XS.iadd X44.here hx rfl (hb hby own_dI_119) rfl k) ?_
  refine X44.putF hx hZ hown (hw _ (List.mem_of_getElem? (i := 36) rfl)) e44 F_taking E_t g_t (Or.inl (hw _ (List.mem_of_getElem? (i := 37) rfl))) (hw _ (List.mem_of_getElem? (i := 2) rfl)) (ty := .int) (by decide) rfl rfl (hb hby own_dI_120) ?_
  intro T45 h45 X45 e45 W45
  replace E_t := E_t.wr W45
  replace A_w := A_w.other W45 (Ne.symm ne_t_w)
  replace F_climbsBetweenRebases := F_climbsBetweenRebases.other W45 (Or.inr (own_sn_WeightTree_climbsBetweenRebases_taking hw))
  replace F_weights := F_weights.other W45 (Or.inr (own_sn_WeightTree_weights_taking hw))
  replace F_present := F_present.other W45 (Or.inr (own_sn_WeightTree_present_taking hw))
  replace F_sums := F_sums.other W45 (Or.inr (own_sn_WeightTree_sums_taking hw))
  replace F_counts := F_counts.other W45 (Or.inr (own_sn_WeightTree_counts_taking hw))
  replace F_top := F_top.other W45 (Or.inr (own_sn_WeightTree_top_taking hw))
  replace F_total := F_total.other W45 (Or.inr (own_sn_WeightTree_total_taking hw))
  replace F_taking := F_taking.same W45
  replace F_rising := F_rising.other W45 (Or.inr (own_sn_WeightTree_rising_taking hw))
  replace F_risingCount := F_risingCount.other W45 (Or.inr (own_sn_WeightTree_risingCount_taking hw))
  replace A_b4 := A_b4.other W45 (Ne.symm (Nat.ne_of_lt lt_t_b4))
  replace A_b6 := A_b6.other W45 (Ne.symm (Nat.ne_of_lt lt_t_b6))
  replace A_b8 := A_b8.other W45 (Ne.symm (Nat.ne_of_lt lt_t_b8))
  replace hn := Nat.le_trans hn (Keep.of_wr W45).1
  clear W45 X44 e44
  refine own_go (mkF m 125 #[rv t, rv w, jv y, .second, iv (2 : Int32), iv (2 : Int32)] [(.int (2 : Int32))]) (fun t' k => XS.iload X45.here hx rfl (hb hby own_dI_123) rfl  k) ?_
  refine own_go (mkF m 127 #[rv t, rv w, jv y, .second, iv (2 : Int32), iv (2 : Int32)] [(.int (2 : Int32)), (.int (2 : Int32))]) (fun t' k => XS.iload X45.here hx rfl (hb hby own_dI_125) rfl  k) ?_
  refine own_go (mkF m 129 #[rv t, rv w, jv y, .second, iv (2 : Int32), iv (2 : Int32)] [(.int (2 : Int32)), (.int (2 : Int32)), (.int (2 : Int32))]) (fun t' k => XS.iload X45.here hx rfl (hb hby own_dI_127) rfl  k) ?_
  refine own_go (mkF m 130 #[rv t, rv w, jv y, .second, iv (2 : Int32), iv (2 : Int32)] [(.int (-2 : Int32)), (.int (2 : Int32)), (.int (2 : Int32))]) (fun t' k => XS.ineg X45.here hx rfl (hb hby own_dI_129) rfl k) ?_
  refine own_go (mkF m 131 #[rv t, rv w, jv y, .second, iv (2 : Int32), iv (2 : Int32)] [(.int (2 : Int32)), (.int (2 : Int32))]) (fun t' k => XS.iand X45.here hx rfl (hb hby own_dI_130) rfl k) ?_
  refine own_go (mkF m 132 #[rv t, rv w, jv y, .second, iv (2 : Int32), iv (2 : Int32)] [(.int (4 : Int32))]) (fun t' k => XS.iadd X45.here hx rfl (hb hby own_dI_131) rfl k) ?_
  refine own_go (mkF m 134 #[rv t, rv w, jv y, .second, iv (2 : Int32), iv (4 : Int32)] []) (fun t' k => XS.istore X45.here hx rfl (hb hby own_dI_132) rfl (l' := #[rv t, rv w, jv y, .second, iv (2 : Int32), iv (4 : Int32)]) rfl k) ?_
  refine own_go (mkF m 136 #[rv t, rv w, jv y, .second, iv (2 : Int32), iv (4 : Int32)] [(.int (4 : Int32))]) (fun t' k => XS.iload X45.here hx rfl (hb hby own_dI_134) rfl  k) ?_
  refine own_go (mkF m 137 #[rv t, rv w, jv y, .second, iv (2 : Int32), iv (4 : Int32)] [(.ref w), (.int (4 : Int32))]) (fun t' k => XS.aloadN X45.here hx rfl (hb hby own_dI_136) rfl rfl  k) ?_
  refine X45.aleno hx hZ e45 A_w (hb hby own_dI_137) ?_
  show own_G p e below s _ _ _ T45 (mkF m 138 #[rv t, rv w, jv y, .second, iv (2 : Int32), iv (4 : Int32)] [(.int (6 : Int32)), (.int (4 : Int32))])
  refine own_go (mkF m 141 #[rv t, rv w, jv y, .second, iv (2 : Int32), iv (4 : Int32)] []) (fun t' k => XS.icmpNo X45.here hx rfl (hb hby own_dI_138) rfl (flt (by decide)).2.2.1 k) ?_
  refine own_go (mkF m 142 #[rv t, rv w, jv y, .second, iv (2 : Int32), iv (4 : Int32)] [(.ref t)]) (fun t' k => XS.aloadN X45.here hx rfl (hb hby own_dI_141) rfl rfl  k) ?_
  refine X45.getF hx hZ hown (hw _ (List.mem_of_getElem? (i := 18) rfl)) e45 F_sums (hb hby own_dI_142) ?_
  intro T46 X46 e46
  refine own_go (mkF m 147 #[rv t, rv w, jv y, .second, iv (2 : Int32), iv (4 : Int32)] [(.int (4 : Int32)), (.ref b6)]) (fun t' k => XS.iload X46.here hx rfl (hb hby own_dI_145) rfl  k) ?_
  refine own_go (mkF m 148 #[rv t, rv w, jv y, .second, iv (2 : Int32), iv (4 : Int32)] [(.int (4 : Int32)), (.ref b6), (.int (4 : Int32)), (.ref b6)]) (fun t' k => Jvm.Free.XT.dup2 X46.here hx rfl (hb hby own_dI_147) rfl rfl rfl k) ?_
  refine X46.ldJo hx hZ e46 A_b6 4 (by decide) (by decide) (hb hby own_dI_148) ?_
  rintro _ ⟨y47, rfl⟩
  refine own_go (mkF m 150 #[rv t, rv w, jv y, .second, iv (2 : Int32), iv (4 : Int32)] [(.ref t), (.long y47), (.int (4 : Int32)), (.ref b6)]) (fun t' k => XS.aloadN X46.here hx rfl (hb hby own_dI_149) rfl rfl  k) ?_
  refine X46.getF hx hZ hown (hw _ (List.mem_of_getElem? (i := 18) rfl)) e46 F_sums (hb hby own_dI_150) ?_
  intro T48 X48 e48
  refine own_go (mkF m 155 #[rv t, rv w, jv y, .second, iv (2 : Int32), iv (4 : Int32)] [(.int (2 : Int32)), (.ref b6), (.long y47), (.int (4 : Int32)), (.ref b6)]) (fun t' k => XS.iload X48.here hx rfl (hb hby own_dI_153) rfl  k) ?_
  refine X48.ldJo hx hZ e48 A_b6 2 (by decide) (by decide) (hb hby own_dI_155) ?_
  rintro _ ⟨y49, rfl⟩
  refine own_go (mkF m 157 #[rv t, rv w, jv y, .second, iv (2 : Int32), iv (4 : Int32)] [(.long (y47 + y49)), (.int (4 : Int32)), (.ref b6)]) (fun t' k => XS.ladd X48.here hx rfl (hb hby own_dI_156) rfl k) ?_
  refine X48.stJo hx hZ e48 A_b6 g_b6 4 (by decide) (by decide) ⟨_, rfl⟩ (hb hby own_dI_157) ?_
  intro T50 h50 X50 e50 W50 A50
  replace A_b6 := A50
  replace E_t := E_t.wr W50
  replace A_w := A_w.other W50 (Nat.ne_of_lt lt_w_b6)
  replace F_climbsBetweenRebases := F_climbsBetweenRebases.other W50 (Or.inl (Nat.ne_of_lt lt_t_b6))
  replace F_weights := F_weights.other W50 (Or.inl (Nat.ne_of_lt lt_t_b6))
  replace F_present := F_present.other W50 (Or.inl (Nat.ne_of_lt lt_t_b6))
  replace F_sums := F_sums.other W50 (Or.inl (Nat.ne_of_lt lt_t_b6))
  replace F_counts := F_counts.other W50 (Or.inl (Nat.ne_of_lt lt_t_b6))
  replace F_top := F_top.other W50 (Or.inl (Nat.ne_of_lt lt_t_b6))
  replace F_total := F_total.other W50 (Or.inl (Nat.ne_of_lt lt_t_b6))
  replace F_taking := F_taking.other W50 (Or.inl (Nat.ne_of_lt lt_t_b6))
  replace F_rising := F_rising.other W50 (Or.inl (Nat.ne_of_lt lt_t_b6))
  replace F_risingCount := F_risingCount.other W50 (Or.inl (Nat.ne_of_lt lt_t_b6))
  replace A_b4 := A_b4.other W50 (Nat.ne_of_lt lt_b4_b6)
  replace A_b8 := A_b8.other W50 (Ne.symm (Nat.ne_of_lt lt_b6_b8))
  replace hn := Nat.le_trans hn (Keep.of_wr W50).1
  clear W50 X48 e48
  refine own_go (mkF m 159 #[rv t, rv w, jv y, .second, iv (2 : Int32), iv (4 : Int32)] [(.ref t)]) (fun t' k => XS.aloadN X50.here hx rfl (hb hby own_dI_158) rfl rfl  k) ?_
  refine X50.getF hx hZ hown (hw _ (List.mem_of_getElem? (i := 21) rfl)) e50 F_counts (hb hby own_dI_159) ?_
  intro T51 X51 e51
  refine own_go (mkF m 164 #[rv t, rv w, jv y, .second, iv (2 : Int32), iv (4 : Int32)] [(.int (4 : Int32)), (.ref b8)]) (fun t' k => XS.iload X51.here hx rfl (hb hby own_dI_162) rfl  k) ?_
  refine own_go (mkF m 165 #[rv t, rv w, jv y, .second, iv (2 : Int32), iv (4 : Int32)] [(.int (4 : Int32)), (.ref b8), (.int (4 : Int32)), (.ref b8)]) (fun t' k => Jvm.Free.XT.dup2 X51.here hx rfl (hb hby own_dI_164) rfl rfl rfl k) ?_
  refine X51.ldI hx hZ e51 A_b8 (v := (.int (0 : Int32))) 4 (by decide) rfl (hb hby own_dI_165) ?_
  refine own_go (mkF m 167 #[rv t, rv w, jv y, .second, iv (2 : Int32), iv (4 : Int32)] [(.ref t), (.int (0 : Int32)), (.int (4 : Int32)), (.ref b8)]) (fun t' k => XS.aloadN X51.here hx rfl (hb hby own_dI_166) rfl rfl  k) ?_
  refine X51.getF hx hZ hown (hw _ (List.mem_of_getElem? (i := 21) rfl)) e51 F_counts (hb hby own_dI_167) ?_
  intro T52 X52 e52
  refine own_go (mkF m 172 #[rv t, rv w, jv y, .second, iv (2 : Int32), iv (4 : Int32)] [(.int (2 : Int32)), (.ref b8), (.int (0 : Int32)), (.int (4 : Int32)), (.ref b8)]) (fun t' k => XS.iload X52.here hx rfl (hb hby own_dI_170) rfl  k) ?_
  refine X52.ldI hx hZ e52 A_b8 (v := (.int (2 : Int32))) 2 (by decide) rfl (hb hby own_dI_172) ?_
  refine own_go (mkF m 174 #[rv t, rv w, jv y, .second, iv (2 : Int32), iv (4 : Int32)] [(.int (2 : Int32)), (.int (4 : Int32)), (.ref b8)]) (fun t' k => XS.iadd X52.here hx rfl (hb hby own_dI_173) rfl k) ?_
  refine X52.stI hx hZ e52 A_b8 g_b8 4 (by decide) (Nat.le_of_ble_eq_true rfl) (hb hby own_dI_174) ?_
  intro T53 h53 X53 e53 W53 A53
  replace A_b8 : own_A Z h53 .int b8 [(.int (0 : Int32)), (.int (1 : Int32)), (.int (2 : Int32)), (.int (0 : Int32)), (.int (2 : Int32)), (.int (0 : Int32)), (.int (0 : Int32))] := A53
  clear A53
  replace E_t := E_t.wr W53
  replace A_w := A_w.other W53 (Nat.ne_of_lt lt_w_b8)
  replace F_climbsBetweenRebases := F_climbsBetweenRebases.other W53 (Or.inl (Nat.ne_of_lt lt_t_b8))
  replace F_weights := F_weights.other W53 (Or.inl (Nat.ne_of_lt lt_t_b8))
  replace F_present := F_present.other W53 (Or.inl (Nat.ne_of_lt lt_t_b8))
  replace F_sums := F_sums.other W53 (Or.inl (Nat.ne_of_lt lt_t_b8))
  replace F_counts := F_counts.other W53 (Or.inl (Nat.ne_of_lt lt_t_b8))
  replace F_top := F_top.other W53 (Or.inl (Nat.ne_of_lt lt_t_b8))
  replace F_total := F_total.other W53 (Or.inl (Nat.ne_of_lt lt_t_b8))
  replace F_taking := F_taking.other W53 (Or.inl (Nat.ne_of_lt lt_t_b8))
  replace F_rising := F_rising.other W53 (Or.inl (Nat.ne_of_lt lt_t_b8))
  replace F_risingCount := F_risingCount.other W53 (Or.inl (Nat.ne_of_lt lt_t_b8))
  replace A_b4 := A_b4.other W53 (Nat.ne_of_lt lt_b4_b8)
  replace A_b6 := A_b6.other W53 (Nat.ne_of_lt lt_b6_b8)
  replace hn := Nat.le_trans hn (Keep.of_wr W53).1
  clear W53 X52 e52
  refine own_go (mkF m 178 #[rv t, rv w, jv y, .second, iv (3 : Int32), iv (4 : Int32)] []) (fun t' k => XS.iinc X53.here hx rfl (hb hby own_dI_175) rfl (l' := #[rv t, rv w, jv y, .second, iv (3 : Int32), iv (4 : Int32)]) rfl k) ?_
  refine own_go (mkF m 54 #[rv t, rv w, jv y, .second, iv (3 : Int32), iv (4 : Int32)] []) (fun t' k => XS.goto X53.here hx rfl (pc0 := 178) (pc' := 54) rfl (hb hby own_dI_178) (by decide) (by decide) k) ?_
  refine own_go (mkF m 56 #[rv t, rv w, jv y, .second, iv (3 : Int32), iv (4 : Int32)] [(.int (3 : Int32))]) (fun t' k => XS.iload X53.here hx rfl (hb hby own_dI_54) rfl  k) ?_
  refine own_go (mkF m 57 #[rv t, rv w, jv y, .second, iv (3 : Int32), iv (4 : Int32)] [(.ref w), (.int (3 : Int32))]) (fun t' k => XS.aloadN X53.here hx rfl (hb hby own_dI_56) rfl rfl  k) ?_
  refine X53.aleno hx hZ e53 A_w (hb hby own_dI_57) ?_
  show own_G p e below s _ _ _ T53 (mkF m 58 #[rv t, rv w, jv y, .second, iv (3 : Int32), iv (4 : Int32)] [(.int (6 : Int32)), (.int (3 : Int32))])
  refine own_go (mkF m 61 #[rv t, rv w, jv y, .second, iv (3 : Int32), iv (4 : Int32)] []) (fun t' k => XS.icmpNo X53.here hx rfl (hb hby own_dI_58) rfl (flt (by decide)).2.2.1 k) ?_
  refine own_go (mkF m 62 #[rv t, rv w, jv y, .second, iv (3 : Int32), iv (4 : Int32)] [(.ref t)]) (fun t' k => XS.aloadN X53.here hx rfl (hb hby own_dI_61) rfl rfl  k) ?_
  refine X53.getF hx hZ hown (hw _ (List.mem_of_getElem? (i := 16) rfl)) e53 F_present (hb hby own_dI_62) ?_
  intro T54 X54 e54
  refine own_go (mkF m 67 #[rv t, rv w, jv y, .second, iv (3 : Int32), iv (4 : Int32)] [(.int (3 : Int32)), (.ref b4)]) (fun t' k => XS.iload X54.here hx rfl (hb hby own_dI_65) rfl  k) ?_
  refine own_go (mkF m 68 #[rv t, rv w, jv y, .second, iv (3 : Int32), iv (4 : Int32)] [(.int (1 : Int32)), (.int (3 : Int32)), (.ref b4)]) (fun t' k => XS.iconst X54.here hx rfl (hb hby own_dI_67) k) ?_
  refine own_go (mkF m 69 #[rv t, rv w, jv y, .second, iv (3 : Int32), iv (4 : Int32)] [(.int (2 : Int32)), (.ref b4)]) (fun t' k => XS.isub X54.here hx rfl (hb hby own_dI_68) rfl k) ?_
  refine own_go (mkF m 70 #[rv t, rv w, jv y, .second, iv (3 : Int32), iv (4 : Int32)] [(.int (1 : Int32)), (.int (2 : Int32)), (.ref b4)]) (fun t' k => XS.iconst X54.here hx rfl (hb hby own_dI_69) k) ?_
  refine X54.stZo hx hZ e54 A_b4 g_b4 2 (by decide) (by decide) ⟨_, rfl⟩ (hb hby own_dI_70) ?_
  intro T55 h55 X55 e55 W55 A55
  replace A_b4 := A55
  replace E_t := E_t.wr W55
  replace A_w := A_w.other W55 (Nat.ne_of_lt lt_w_b4)
  replace F_climbsBetweenRebases := F_climbsBetweenRebases.other W55 (Or.inl (Nat.ne_of_lt lt_t_b4))
  replace F_weights := F_weights.other W55 (Or.inl (Nat.ne_of_lt lt_t_b4))
  replace F_present := F_present.other W55 (Or.inl (Nat.ne_of_lt lt_t_b4))
  replace F_sums := F_sums.other W55 (Or.inl (Nat.ne_of_lt lt_t_b4))
  replace F_counts := F_counts.other W55 (Or.inl (Nat.ne_of_lt lt_t_b4))
  replace F_top := F_top.other W55 (Or.inl (Nat.ne_of_lt lt_t_b4))
  replace F_total := F_total.other W55 (Or.inl (Nat.ne_of_lt lt_t_b4))
  replace F_taking := F_taking.other W55 (Or.inl (Nat.ne_of_lt lt_t_b4))
  replace F_rising := F_rising.other W55 (Or.inl (Nat.ne_of_lt lt_t_b4))
  replace F_risingCount := F_risingCount.other W55 (Or.inl (Nat.ne_of_lt lt_t_b4))
  replace A_b6 := A_b6.other W55 (Ne.symm (Nat.ne_of_lt lt_b4_b6))
  replace A_b8 := A_b8.other W55 (Ne.symm (Nat.ne_of_lt lt_b4_b8))
  replace hn := Nat.le_trans hn (Keep.of_wr W55).1
  clear W55 X54 e54
  refine own_go (mkF m 72 #[rv t, rv w, jv y, .second, iv (3 : Int32), iv (4 : Int32)] [(.ref t)]) (fun t' k => XS.aloadN X55.here hx rfl (hb hby own_dI_71) rfl rfl  k) ?_
  refine X55.getF hx hZ hown (hw _ (List.mem_of_getElem? (i := 18) rfl)) e55 F_sums (hb hby own_dI_72) ?_
  intro T56 X56 e56
  refine own_go (mkF m 77 #[rv t, rv w, jv y, .second, iv (3 : Int32), iv (4 : Int32)] [(.int (3 : Int32)), (.ref b6)]) (fun t' k => XS.iload X56.here hx rfl (hb hby own_dI_75) rfl  k) ?_
  refine own_go (mkF m 78 #[rv t, rv w, jv y, .second, iv (3 : Int32), iv (4 : Int32)] [(.int (3 : Int32)), (.ref b6), (.int (3 : Int32)), (.ref b6)]) (fun t' k => Jvm.Free.XT.dup2 X56.here hx rfl (hb hby own_dI_77) rfl rfl rfl k) ?_
  refine X56.ldJo hx hZ e56 A_b6 3 (by decide) (by decide) (hb hby own_dI_78) ?_
  rintro _ ⟨y57, rfl⟩
  refine own_go (mkF m 80 #[rv t, rv w, jv y, .second, iv (3 : Int32), iv (4 : Int32)] [(.ref w), (.long y57), (.int (3 : Int32)), (.ref b6)]) (fun t' k => XS.aloadN X56.here hx rfl (hb hby own_dI_79) rfl rfl  k) ?_
  refine own_go (mkF m 82 #[rv t, rv w, jv y, .second, iv (3 : Int32), iv (4 : Int32)] [(.int (3 : Int32)), (.ref w), (.long y57), (.int (3 : Int32)), (.ref b6)]) (fun t' k => XS.iload X56.here hx rfl (hb hby own_dI_80) rfl  k) ?_
  refine own_go (mkF m 83 #[rv t, rv w, jv y, .second, iv (3 : Int32), iv (4 : Int32)] [(.int (1 : Int32)), (.int (3 : Int32)), (.ref w), (.long y57), (.int (3 : Int32)), (.ref b6)]) (fun t' k => XS.iconst X56.here hx rfl (hb hby own_dI_82) k) ?_
  refine own_go (mkF m 84 #[rv t, rv w, jv y, .second, iv (3 : Int32), iv (4 : Int32)] [(.int (2 : Int32)), (.ref w), (.long y57), (.int (3 : Int32)), (.ref b6)]) (fun t' k => XS.isub X56.here hx rfl (hb hby own_dI_83) rfl k) ?_
  refine X56.ldJo hx hZ e56 A_w 2 (by decide) (by decide) (hb hby own_dI_84) ?_
  rintro _ ⟨y58, rfl⟩
  refine own_go (mkF m 86 #[rv t, rv w, jv y, .second, iv (3 : Int32), iv (4 : Int32)] [(.long (y57 + y58)), (.int (3 : Int32)), (.ref b6)]) (fun t' k => XS.ladd X56.here hx rfl (hb hby own_dI_85) rfl k) ?_
  refine X56.stJo hx hZ e56 A_b6 g_b6 3 (by decide) (by decide) ⟨_, rfl⟩ (hb hby own_dI_86) ?_
  intro T59 h59 X59 e59 W59 A59
  replace A_b6 := A59
  replace E_t := E_t.wr W59
  replace A_w := A_w.other W59 (Nat.ne_of_lt lt_w_b6)
  replace F_climbsBetweenRebases := F_climbsBetweenRebases.other W59 (Or.inl (Nat.ne_of_lt lt_t_b6))
  replace F_weights := F_weights.other W59 (Or.inl (Nat.ne_of_lt lt_t_b6))
  replace F_present := F_present.other W59 (Or.inl (Nat.ne_of_lt lt_t_b6))
  replace F_sums := F_sums.other W59 (Or.inl (Nat.ne_of_lt lt_t_b6))
  replace F_counts := F_counts.other W59 (Or.inl (Nat.ne_of_lt lt_t_b6))
  replace F_top := F_top.other W59 (Or.inl (Nat.ne_of_lt lt_t_b6))
  replace F_total := F_total.other W59 (Or.inl (Nat.ne_of_lt lt_t_b6))
  replace F_taking := F_taking.other W59 (Or.inl (Nat.ne_of_lt lt_t_b6))
  replace F_rising := F_rising.other W59 (Or.inl (Nat.ne_of_lt lt_t_b6))
  replace F_risingCount := F_risingCount.other W59 (Or.inl (Nat.ne_of_lt lt_t_b6))
  replace A_b4 := A_b4.other W59 (Nat.ne_of_lt lt_b4_b6)
  replace A_b8 := A_b8.other W59 (Ne.symm (Nat.ne_of_lt lt_b6_b8))
  replace hn := Nat.le_trans hn (Keep.of_wr W59).1
  clear W59 X56 e56
  refine own_go (mkF m 88 #[rv t, rv w, jv y, .second, iv (3 : Int32), iv (4 : Int32)] [(.ref t)]) (fun t' k => XS.aloadN X59.here hx rfl (hb hby own_dI_87) rfl rfl  k) ?_
  refine X59.getF hx hZ hown (hw _ (List.mem_of_getElem? (i := 21) rfl)) e59 F_counts (hb hby own_dI_88) ?_
  intro T60 X60 e60
  refine own_go (mkF m 93 #[rv t, rv w, jv y, .second, iv (3 : Int32), iv (4 : Int32)] [(.int (3 : Int32)), (.ref b8)]) (fun t' k => XS.iload X60.here hx rfl (hb hby own_dI_91) rfl  k) ?_
  refine own_go (mkF m 94 #[rv t, rv w, jv y, .second, iv (3 : Int32), iv (4 : Int32)] [(.int (3 : Int32)), (.ref b8), (.int (3 : Int32)), (.ref b8)]) (fun t' k => Jvm.Free.XT.dup2 X60.here hx rfl (hb hby own_dI_93) rfl rfl rfl k) ?_
  refine X60.ldI hx hZ e60 A_b8 (v := (.int (0 : Int32))) 3 (by decide) rfl (hb hby own_dI_94) ?_
  refine own_go (mkF m 96 #[rv t, rv w, jv y, .second, iv (3 : Int32), iv (4 : Int32)] [(.int (1 : Int32)), (.int (0 : Int32)), (.int (3 : Int32)), (.ref b8)]) (fun t' k => XS.iconst X60.here hx rfl (hb hby own_dI_95) k) ?_
  refine own_go (mkF m 97 #[rv t, rv w, jv y, .second, iv (3 : Int32), iv (4 : Int32)] [(.int (1 : Int32)), (.int (3 : Int32)), (.ref b8)]) (fun t' k => XS.iadd X60.here hx rfl (hb hby own_dI_96) rfl k) ?_
  refine X60.stI hx hZ e60 A_b8 g_b8 3 (by decide) (Nat.le_of_ble_eq_true rfl) (hb hby own_dI_97) ?_
  intro T61 h61 X61 e61 W61 A61
  replace A_b8 : own_A Z h61 .int b8 [(.int (0 : Int32)), (.int (1 : Int32)), (.int (2 : Int32)), (.int (1 : Int32)), (.int (2 : Int32)), (.int (0 : Int32)), (.int (0 : Int32))] := A61
  clear A61
  replace E_t := E_t.wr W61
  replace A_w := A_w.other W61 (Nat.ne_of_lt lt_w_b8)
  replace F_climbsBetweenRebases := F_climbsBetweenRebases.other W61 (Or.inl (Nat.ne_of_lt lt_t_b8))
  replace F_weights := F_weights.other W61 (Or.inl (Nat.ne_of_lt lt_t_b8))
  replace F_present := F_present.other W61 (Or.inl (Nat.ne_of_lt lt_t_b8))
  replace F_sums := F_sums.other W61 (Or.inl (Nat.ne_of_lt lt_t_b8))
  replace F_counts := F_counts.other W61 (Or.inl (Nat.ne_of_lt lt_t_b8))
  replace F_top := F_top.other W61 (Or.inl (Nat.ne_of_lt lt_t_b8))
  replace F_total := F_total.other W61 (Or.inl (Nat.ne_of_lt lt_t_b8))
  replace F_taking := F_taking.other W61 (Or.inl (Nat.ne_of_lt lt_t_b8))
  replace F_rising := F_rising.other W61 (Or.inl (Nat.ne_of_lt lt_t_b8))
  replace F_risingCount := F_risingCount.other W61 (Or.inl (Nat.ne_of_lt lt_t_b8))
  replace A_b4 := A_b4.other W61 (Nat.ne_of_lt lt_b4_b8)
  replace A_b6 := A_b6.other W61 (Nat.ne_of_lt lt_b6_b8)
  replace hn := Nat.le_trans hn (Keep.of_wr W61).1
  clear W61 X60 e60
  refine own_go (mkF m 99 #[rv t, rv w, jv y, .second, iv (3 : Int32), iv (4 : Int32)] [(.ref t)]) (fun t' k => XS.aloadN X61.here hx rfl (hb hby own_dI_98) rfl rfl  k) ?_
  refine own_go (mkF m 100 #[rv t, rv w, jv y, .second, iv (3 : Int32), iv (4 : Int32)] [(.ref t), (.ref t)]) (fun t' k => XS.dup X61.here hx rfl (hb hby own_dI_99) rfl rfl k) ?_
  refine X61.getF hx hZ hown (hw _ (List.mem_of_getElem? (i := 34) rfl)) e61 F_total (hb hby own_dI_100) ?_
  intro T62 X62 e62
  refine own_go (mkF m 104 #[rv t, rv w, jv y, .second, iv (3 : Int32), iv (4 : Int32)] [(.ref w), (.long ug43), (.ref t)]) (fun t' k => XS.aloadN X62.here hx rfl (hb hby own_dI_103) rfl rfl  k) ?_
  refine own_go (mkF m 106 #[rv t, rv w, jv y, .second, iv (3 : Int32), iv (4 : Int32)] [(.int (3 : Int32)), (.ref w), (.long ug43), (.ref t)]) (fun t' k => XS.iload X62.here hx rfl (hb hby own_dI_104) rfl  k) ?_
  refine own_go (mkF m 107 #[rv t, rv w, jv y, .second, iv (3 : Int32), iv (4 : Int32)] [(.int (1 : Int32)), (.int (3 : Int32)), (.ref w), (.long ug43), (.ref t)]) (fun t' k => XS.iconst X62.here hx rfl (hb hby own_dI_106) k) ?_
  refine own_go (mkF m 108 #[rv t, rv w, jv y, .second, iv (3 : Int32), iv (4 : Int32)] [(.int (2 : Int32)), (.ref w), (.long ug43), (.ref t)]) (fun t' k => XS.isub X62.here hx rfl (hb hby own_dI_107) rfl k) ?_
  refine X62.ldJo hx hZ e62 A_w 2 (by decide) (by decide) (hb hby own_dI_108) ?_
  rintro _ ⟨y63, rfl⟩
  refine own_go (mkF m 110 #[rv t, rv w, jv y, .second, iv (3 : Int32), iv (4 : Int32)] [(.long (ug43 + y63)), (.ref t)]) (fun t' k => XS.ladd X62.here hx rfl (hb hby own_dI_109) rfl k) ?_
  refine X62.putF hx hZ hown (hw _ (List.mem_of_getElem? (i := 34) rfl)) e62 F_total E_t g_t (Or.inl (hw _ (List.mem_of_getElem? (i := 35) rfl))) (hw _ (List.mem_of_getElem? (i := 2) rfl)) (ty := .long) (by decide) rfl rfl (hb hby own_dI_110) ?_
  intro T64 h64 X64 e64 W64
  replace E_t := E_t.wr W64
  replace A_w := A_w.other W64 (Ne.symm ne_t_w)
  replace F_climbsBetweenRebases := F_climbsBetweenRebases.other W64 (Or.inr (own_sn_WeightTree_climbsBetweenRebases_total hw))
  replace F_weights := F_weights.other W64 (Or.inr (own_sn_WeightTree_weights_total hw))
  replace F_present := F_present.other W64 (Or.inr (own_sn_WeightTree_present_total hw))
  replace F_sums := F_sums.other W64 (Or.inr (own_sn_WeightTree_sums_total hw))
  replace F_counts := F_counts.other W64 (Or.inr (own_sn_WeightTree_counts_total hw))
  replace F_top := F_top.other W64 (Or.inr (own_sn_WeightTree_top_total hw))
  replace F_total := F_total.same W64
  replace F_taking := F_taking.other W64 (Or.inr (own_sn_WeightTree_taking_total hw))
  replace F_rising := F_rising.other W64 (Or.inr (own_sn_WeightTree_rising_total hw))
  replace F_risingCount := F_risingCount.other W64 (Or.inr (own_sn_WeightTree_risingCount_total hw))
  replace A_b4 := A_b4.other W64 (Ne.symm (Nat.ne_of_lt lt_t_b4))
  replace A_b6 := A_b6.other W64 (Ne.symm (Nat.ne_of_lt lt_t_b6))
  replace A_b8 := A_b8.other W64 (Ne.symm (Nat.ne_of_lt lt_t_b8))
  replace hn := Nat.le_trans hn (Keep.of_wr W64).1
  clear W64 X62 e62
  generalize (ug43 + y63) = ug64 at F_total
  refine own_go (mkF m 114 #[rv t, rv w, jv y, .second, iv (3 : Int32), iv (4 : Int32)] [(.ref t)]) (fun t' k => XS.aloadN X64.here hx rfl (hb hby own_dI_113) rfl rfl  k) ?_
  refine own_go (mkF m 115 #[rv t, rv w, jv y, .second, iv (3 : Int32), iv (4 : Int32)] [(.ref t), (.ref t)]) (fun t' k => XS.dup X64.here hx rfl (hb hby own_dI_114) rfl rfl k) ?_
  refine X64.getF hx hZ hown (hw _ (List.mem_of_getElem? (i := 36) rfl)) e64 F_taking (hb hby own_dI_115) ?_
  intro T65 X65 e65
  refine own_go (mkF m 119 #[rv t, rv w, jv y, .second, iv (3 : Int32), iv (4 : Int32)] [(.int (1 : Int32)), (.int (2 : Int32)), (.ref t)]) (fun t' k => XS.iconst X65.here hx rfl (hb hby own_dI_118) k) ?_
  refine own_go (mkF m 120 #[rv t, rv w, jv y, .second, iv (3 : Int32), iv (4 : Int32)] [(.int (3 : Int32)), (.ref t)]) (fun t' k => XS.iadd X65.here hx rfl (hb hby own_dI_119) rfl k) ?_
  refine X65.putF hx hZ hown (hw _ (List.mem_of_getElem? (i := 36) rfl)) e65 F_taking E_t g_t (Or.inl (hw _ (List.mem_of_getElem? (i := 37) rfl))) (hw _ (List.mem_of_getElem? (i := 2) rfl)) (ty := .int) (by decide) rfl rfl (hb hby own_dI_120) ?_
  intro T66 h66 X66 e66 W66
  replace E_t := E_t.wr W66
  replace A_w := A_w.other W66 (Ne.symm ne_t_w)
  replace F_climbsBetweenRebases := F_climbsBetweenRebases.other W66 (Or.inr (own_sn_WeightTree_climbsBetweenRebases_taking hw))
  replace F_weights := F_weights.other W66 (Or.inr (own_sn_WeightTree_weights_taking hw))
  replace F_present := F_present.other W66 (Or.inr (own_sn_WeightTree_present_taking hw))
  replace F_sums := F_sums.other W66 (Or.inr (own_sn_WeightTree_sums_taking hw))
  replace F_counts := F_counts.other W66 (Or.inr (own_sn_WeightTree_counts_taking hw))
  replace F_top := F_top.other W66 (Or.inr (own_sn_WeightTree_top_taking hw))
  replace F_total := F_total.other W66 (Or.inr (own_sn_WeightTree_total_taking hw))
  replace F_taking := F_taking.same W66
  replace F_rising := F_rising.other W66 (Or.inr (own_sn_WeightTree_rising_taking hw))
  replace F_risingCount := F_risingCount.other W66 (Or.inr (own_sn_WeightTree_risingCount_taking hw))
  replace A_b4 := A_b4.other W66 (Ne.symm (Nat.ne_of_lt lt_t_b4))
  replace A_b6 := A_b6.other W66 (Ne.symm (Nat.ne_of_lt lt_t_b6))
  replace A_b8 := A_b8.other W66 (Ne.symm (Nat.ne_of_lt lt_t_b8))
  replace hn := Nat.le_trans hn (Keep.of_wr W66).1
  clear W66 X65 e65
  refine own_go (mkF m 125 #[rv t, rv w, jv y, .second, iv (3 : Int32), iv (4 : Int32)] [(.int (3 : Int32))]) (fun t' k => XS.iload X66.here hx rfl (hb hby own_dI_123) rfl  k) ?_
  refine own_go (mkF m 127 #[rv t, rv w, jv y, .second, iv (3 : Int32), iv (4 : Int32)] [(.int (3 : Int32)), (.int (3 : Int32))]) (fun t' k => XS.iload X66.here hx rfl (hb hby own_dI_125) rfl  k) ?_
  refine own_go (mkF m 129 #[rv t, rv w, jv y, .second, iv (3 : Int32), iv (4 : Int32)] [(.int (3 : Int32)), (.int (3 : Int32)), (.int (3 : Int32))]) (fun t' k => XS.iload X66.here hx rfl (hb hby own_dI_127) rfl  k) ?_
  refine own_go (mkF m 130 #[rv t, rv w, jv y, .second, iv (3 : Int32), iv (4 : Int32)] [(.int (-3 : Int32)), (.int (3 : Int32)), (.int (3 : Int32))]) (fun t' k => XS.ineg X66.here hx rfl (hb hby own_dI_129) rfl k) ?_
  refine own_go (mkF m 131 #[rv t, rv w, jv y, .second, iv (3 : Int32), iv (4 : Int32)] [(.int (1 : Int32)), (.int (3 : Int32))]) (fun t' k => XS.iand X66.here hx rfl (hb hby own_dI_130) rfl k) ?_
  refine own_go (mkF m 132 #[rv t, rv w, jv y, .second, iv (3 : Int32), iv (4 : Int32)] [(.int (4 : Int32))]) (fun t' k => XS.iadd X66.here hx rfl (hb hby own_dI_131) rfl k) ?_
  refine own_go (mkF m 134 #[rv t, rv w, jv y, .second, iv (3 : Int32), iv (4 : Int32)] []) (fun t' k => XS.istore X66.here hx rfl (hb hby own_dI_132) rfl (l' := #[rv t, rv w, jv y, .second, iv (3 : Int32), iv (4 : Int32)]) rfl k) ?_
  refine own_go (mkF m 136 #[rv t, rv w, jv y, .second, iv (3 : Int32), iv (4 : Int32)] [(.int (4 : Int32))]) (fun t' k => XS.iload X66.here hx rfl (hb hby own_dI_134) rfl  k) ?_
  refine own_go (mkF m 137 #[rv t, rv w, jv y, .second, iv (3 : Int32), iv (4 : Int32)] [(.ref w), (.int (4 : Int32))]) (fun t' k => XS.aloadN X66.here hx rfl (hb hby own_dI_136) rfl rfl  k) ?_
  refine X66.aleno hx hZ e66 A_w (hb hby own_dI_137) ?_
  show own_G p e below s _ _ _ T66 (mkF m 138 #[rv t, rv w, jv y, .second, iv (3 : Int32), iv (4 : Int32)] [(.int (6 : Int32)), (.int (4 : Int32))])
  refine own_go (mkF m 141 #[rv t, rv w, jv y, .second, iv (3 : Int32), iv (4 : Int32)] []) (fun t' k => XS.icmpNo X66.here hx rfl (hb hby own_dI_138) rfl (flt (by decide)).2.2.1 k) ?_
  refine own_go (mkF m 142 #[rv t, rv w, jv y, .second, iv (3 : Int32), iv (4 : Int32)] [(.ref t)]) (fun t' k => XS.aloadN X66.here hx rfl (hb hby own_dI_141) rfl rfl  k) ?_
  refine X66.getF hx hZ hown (hw _ (List.mem_of_getElem? (i := 18) rfl)) e66 F_sums (hb hby own_dI_142) ?_
  intro T67 X67 e67
  refine own_go (mkF m 147 #[rv t, rv w, jv y, .second, iv (3 : Int32), iv (4 : Int32)] [(.int (4 : Int32)), (.ref b6)]) (fun t' k => XS.iload X67.here hx rfl (hb hby own_dI_145) rfl  k) ?_
  refine own_go (mkF m 148 #[rv t, rv w, jv y, .second, iv (3 : Int32), iv (4 : Int32)] [(.int (4 : Int32)), (.ref b6), (.int (4 : Int32)), (.ref b6)]) (fun t' k => Jvm.Free.XT.dup2 X67.here hx rfl (hb hby own_dI_147) rfl rfl rfl k) ?_
  refine X67.ldJo hx hZ e67 A_b6 4 (by decide) (by decide) (hb hby own_dI_148) ?_
  rintro _ ⟨y68, rfl⟩
  refine own_go (mkF m 150 #[rv t, rv w, jv y, .second, iv (3 : Int32), iv (4 : Int32)] [(.ref t), (.long y68), (.int (4 : Int32)), (.ref b6)]) (fun t' k => XS.aloadN X67.here hx rfl (hb hby own_dI_149) rfl rfl  k) ?_
  refine X67.getF hx hZ hown (hw _ (List.mem_of_getElem? (i := 18) rfl)) e67 F_sums (hb hby own_dI_150) ?_
  intro T69 X69 e69
  refine own_go (mkF m 155 #[rv t, rv w, jv y, .second, iv (3 : Int32), iv (4 : Int32)] [(.int (3 : Int32)), (.ref b6), (.long y68), (.int (4 : Int32)), (.ref b6)]) (fun t' k => XS.iload X69.here hx rfl (hb hby own_dI_153) rfl  k) ?_
  refine X69.ldJo hx hZ e69 A_b6 3 (by decide) (by decide) (hb hby own_dI_155) ?_
  rintro _ ⟨y70, rfl⟩
  refine own_go (mkF m 157 #[rv t, rv w, jv y, .second, iv (3 : Int32), iv (4 : Int32)] [(.long (y68 + y70)), (.int (4 : Int32)), (.ref b6)]) (fun t' k => XS.ladd X69.here hx rfl (hb hby own_dI_156) rfl k) ?_
  refine X69.stJo hx hZ e69 A_b6 g_b6 4 (by decide) (by decide) ⟨_, rfl⟩ (hb hby own_dI_157) ?_
  intro T71 h71 X71 e71 W71 A71
  replace A_b6 := A71
  replace E_t := E_t.wr W71
  replace A_w := A_w.other W71 (Nat.ne_of_lt lt_w_b6)
  replace F_climbsBetweenRebases := F_climbsBetweenRebases.other W71 (Or.inl (Nat.ne_of_lt lt_t_b6))
  replace F_weights := F_weights.other W71 (Or.inl (Nat.ne_of_lt lt_t_b6))
  replace F_present := F_present.other W71 (Or.inl (Nat.ne_of_lt lt_t_b6))
  replace F_sums := F_sums.other W71 (Or.inl (Nat.ne_of_lt lt_t_b6))
  replace F_counts := F_counts.other W71 (Or.inl (Nat.ne_of_lt lt_t_b6))
  replace F_top := F_top.other W71 (Or.inl (Nat.ne_of_lt lt_t_b6))
  replace F_total := F_total.other W71 (Or.inl (Nat.ne_of_lt lt_t_b6))
  replace F_taking := F_taking.other W71 (Or.inl (Nat.ne_of_lt lt_t_b6))
  replace F_rising := F_rising.other W71 (Or.inl (Nat.ne_of_lt lt_t_b6))
  replace F_risingCount := F_risingCount.other W71 (Or.inl (Nat.ne_of_lt lt_t_b6))
  replace A_b4 := A_b4.other W71 (Nat.ne_of_lt lt_b4_b6)
  replace A_b8 := A_b8.other W71 (Ne.symm (Nat.ne_of_lt lt_b6_b8))
  replace hn := Nat.le_trans hn (Keep.of_wr W71).1
  clear W71 X69 e69
  refine own_go (mkF m 159 #[rv t, rv w, jv y, .second, iv (3 : Int32), iv (4 : Int32)] [(.ref t)]) (fun t' k => XS.aloadN X71.here hx rfl (hb hby own_dI_158) rfl rfl  k) ?_
  refine X71.getF hx hZ hown (hw _ (List.mem_of_getElem? (i := 21) rfl)) e71 F_counts (hb hby own_dI_159) ?_
  intro T72 X72 e72
  refine own_go (mkF m 164 #[rv t, rv w, jv y, .second, iv (3 : Int32), iv (4 : Int32)] [(.int (4 : Int32)), (.ref b8)]) (fun t' k => XS.iload X72.here hx rfl (hb hby own_dI_162) rfl  k) ?_
  refine own_go (mkF m 165 #[rv t, rv w, jv y, .second, iv (3 : Int32), iv (4 : Int32)] [(.int (4 : Int32)), (.ref b8), (.int (4 : Int32)), (.ref b8)]) (fun t' k => Jvm.Free.XT.dup2 X72.here hx rfl (hb hby own_dI_164) rfl rfl rfl k) ?_
  refine X72.ldI hx hZ e72 A_b8 (v := (.int (2 : Int32))) 4 (by decide) rfl (hb hby own_dI_165) ?_
  refine own_go (mkF m 167 #[rv t, rv w, jv y, .second, iv (3 : Int32), iv (4 : Int32)] [(.ref t), (.int (2 : Int32)), (.int (4 : Int32)), (.ref b8)]) (fun t' k => XS.aloadN X72.here hx rfl (hb hby own_dI_166) rfl rfl  k) ?_
  refine X72.getF hx hZ hown (hw _ (List.mem_of_getElem? (i := 21) rfl)) e72 F_counts (hb hby own_dI_167) ?_
  intro T73 X73 e73
  refine own_go (mkF m 172 #[rv t, rv w, jv y, .second, iv (3 : Int32), iv (4 : Int32)] [(.int (3 : Int32)), (.ref b8), (.int (2 : Int32)), (.int (4 : Int32)), (.ref b8)]) (fun t' k => XS.iload X73.here hx rfl (hb hby own_dI_170) rfl  k) ?_
  refine X73.ldI hx hZ e73 A_b8 (v := (.int (1 : Int32))) 3 (by decide) rfl (hb hby own_dI_172) ?_
  refine own_go (mkF m 174 #[rv t, rv w, jv y, .second, iv (3 : Int32), iv (4 : Int32)] [(.int (3 : Int32)), (.int (4 : Int32)), (.ref b8)]) (fun t' k => XS.iadd X73.here hx rfl (hb hby own_dI_173) rfl k) ?_
  refine X73.stI hx hZ e73 A_b8 g_b8 4 (by decide) (Nat.le_of_ble_eq_true rfl) (hb hby own_dI_174) ?_
  intro T74 h74 X74 e74 W74 A74
  replace A_b8 : own_A Z h74 .int b8 [(.int (0 : Int32)), (.int (1 : Int32)), (.int (2 : Int32)), (.int (1 : Int32)), (.int (3 : Int32)), (.int (0 : Int32)), (.int (0 : Int32))] := A74
  clear A74
  replace E_t := E_t.wr W74
  replace A_w := A_w.other W74 (Nat.ne_of_lt lt_w_b8)
  replace F_climbsBetweenRebases := F_climbsBetweenRebases.other W74 (Or.inl (Nat.ne_of_lt lt_t_b8))
  replace F_weights := F_weights.other W74 (Or.inl (Nat.ne_of_lt lt_t_b8))
  replace F_present := F_present.other W74 (Or.inl (Nat.ne_of_lt lt_t_b8))
  replace F_sums := F_sums.other W74 (Or.inl (Nat.ne_of_lt lt_t_b8))
  replace F_counts := F_counts.other W74 (Or.inl (Nat.ne_of_lt lt_t_b8))
  replace F_top := F_top.other W74 (Or.inl (Nat.ne_of_lt lt_t_b8))
  replace F_total := F_total.other W74 (Or.inl (Nat.ne_of_lt lt_t_b8))
  replace F_taking := F_taking.other W74 (Or.inl (Nat.ne_of_lt lt_t_b8))
  replace F_rising := F_rising.other W74 (Or.inl (Nat.ne_of_lt lt_t_b8))
  replace F_risingCount := F_risingCount.other W74 (Or.inl (Nat.ne_of_lt lt_t_b8))
  replace A_b4 := A_b4.other W74 (Nat.ne_of_lt lt_b4_b8)
  replace A_b6 := A_b6.other W74 (Nat.ne_of_lt lt_b6_b8)
  replace hn := Nat.le_trans hn (Keep.of_wr W74).1
  clear W74 X73 e73
  refine own_go (mkF m 178 #[rv t, rv w, jv y, .second, iv (4 : Int32), iv (4 : Int32)] []) (fun t' k => XS.iinc X74.here hx rfl (hb hby own_dI_175) rfl (l' := #[rv t, rv w, jv y, .second, iv (4 : Int32), iv (4 : Int32)]) rfl k) ?_
  refine own_go (mkF m 54 #[rv t, rv w, jv y, .second, iv (4 : Int32), iv (4 : Int32)] []) (fun t' k => XS.goto X74.here hx rfl (pc0 := 178) (pc' := 54) rfl (hb hby own_dI_178) (by decide) (by decide) k) ?_
  refine own_go (mkF m 56 #[rv t, rv w, jv y, .second, iv (4 : Int32), iv (4 : Int32)] [(.int (4 : Int32))]) (fun t' k => XS.iload X74.here hx rfl (hb hby own_dI_54) rfl  k) ?_
  refine own_go (mkF m 57 #[rv t, rv w, jv y, .second, iv (4 : Int32), iv (4 : Int32)] [(.ref w), (.int (4 : Int32))]) (fun t' k => XS.aloadN X74.here hx rfl (hb hby own_dI_56) rfl rfl  k) ?_
  refine X74.aleno hx hZ e74 A_w (hb hby own_dI_57) ?_
  show own_G p e below s _ _ _ T74 (mkF m 58 #[rv t, rv w, jv y, .second, iv (4 : Int32), iv (4 : Int32)] [(.int (6 : Int32)), (.int (4 : Int32))])
  refine own_go (mkF m 61 #[rv t, rv w, jv y, .second, iv (4 : Int32), iv (4 : Int32)] []) (fun t' k => XS.icmpNo X74.here hx rfl (hb hby own_dI_58) rfl (flt (by decide)).2.2.1 k) ?_
  refine own_go (mkF m 62 #[rv t, rv w, jv y, .second, iv (4 : Int32), iv (4 : Int32)] [(.ref t)]) (fun t' k => XS.aloadN X74.here hx rfl (hb hby own_dI_61) rfl rfl  k) ?_
  refine X74.getF hx hZ hown (hw _ (List.mem_of_getElem? (i := 16) rfl)) e74 F_present (hb hby own_dI_62) ?_
  intro T75 X75 e75
  refine own_go (mkF m 67 #[rv t, rv w, jv y, .second, iv (4 : Int32), iv (4 : Int32)] [(.int (4 : Int32)), (.ref b4)]) (fun t' k => XS.iload X75.here hx rfl (hb hby own_dI_65) rfl  k) ?_
  refine own_go (mkF m 68 #[rv t, rv w, jv y, .second, iv (4 : Int32), iv (4 : Int32)] [(.int (1 : Int32)), (.int (4 : Int32)), (.ref b4)]) (fun t' k => XS.iconst X75.here hx rfl (hb hby own_dI_67) k) ?_
  refine own_go (mkF m 69 #[rv t, rv w, jv y, .second, iv (4 : Int32), iv (4 : Int32)] [(.int (3 : Int32)), (.ref b4)]) (fun t' k => XS.isub X75.here hx rfl (hb hby own_dI_68) rfl k) ?_
  refine own_go (mkF m 70 #[rv t, rv w, jv y, .second, iv (4 : Int32), iv (4 : Int32)] [(.int (1 : Int32)), (.int (3 : Int32)), (.ref b4)]) (fun t' k => XS.iconst X75.here hx rfl (hb hby own_dI_69) k) ?_
  refine X75.stZo hx hZ e75 A_b4 g_b4 3 (by decide) (by decide) ⟨_, rfl⟩ (hb hby own_dI_70) ?_
  intro T76 h76 X76 e76 W76 A76
  replace A_b4 := A76
  replace E_t := E_t.wr W76
  replace A_w := A_w.other W76 (Nat.ne_of_lt lt_w_b4)
  replace F_climbsBetweenRebases := F_climbsBetweenRebases.other W76 (Or.inl (Nat.ne_of_lt lt_t_b4))
  replace F_weights := F_weights.other W76 (Or.inl (Nat.ne_of_lt lt_t_b4))
  replace F_present := F_present.other W76 (Or.inl (Nat.ne_of_lt lt_t_b4))
  replace F_sums := F_sums.other W76 (Or.inl (Nat.ne_of_lt lt_t_b4))
  replace F_counts := F_counts.other W76 (Or.inl (Nat.ne_of_lt lt_t_b4))
  replace F_top := F_top.other W76 (Or.inl (Nat.ne_of_lt lt_t_b4))
  replace F_total := F_total.other W76 (Or.inl (Nat.ne_of_lt lt_t_b4))
  replace F_taking := F_taking.other W76 (Or.inl (Nat.ne_of_lt lt_t_b4))
  replace F_rising := F_rising.other W76 (Or.inl (Nat.ne_of_lt lt_t_b4))
  replace F_risingCount := F_risingCount.other W76 (Or.inl (Nat.ne_of_lt lt_t_b4))
  replace A_b6 := A_b6.other W76 (Ne.symm (Nat.ne_of_lt lt_b4_b6))
  replace A_b8 := A_b8.other W76 (Ne.symm (Nat.ne_of_lt lt_b4_b8))
  replace hn := Nat.le_trans hn (Keep.of_wr W76).1
  clear W76 X75 e75
  refine own_go (mkF m 72 #[rv t, rv w, jv y, .second, iv (4 : Int32), iv (4 : Int32)] [(.ref t)]) (fun t' k => XS.aloadN X76.here hx rfl (hb hby own_dI_71) rfl rfl  k) ?_
  refine X76.getF hx hZ hown (hw _ (List.mem_of_getElem? (i := 18) rfl)) e76 F_sums (hb hby own_dI_72) ?_
  intro T77 X77 e77
  refine own_go (mkF m 77 #[rv t, rv w, jv y, .second, iv (4 : Int32), iv (4 : Int32)] [(.int (4 : Int32)), (.ref b6)]) (fun t' k => XS.iload X77.here hx rfl (hb hby own_dI_75) rfl  k) ?_
  refine own_go (mkF m 78 #[rv t, rv w, jv y, .second, iv (4 : Int32), iv (4 : Int32)] [(.int (4 : Int32)), (.ref b6), (.int (4 : Int32)), (.ref b6)]) (fun t' k => Jvm.Free.XT.dup2 X77.here hx rfl (hb hby own_dI_77) rfl rfl rfl k) ?_
  refine X77.ldJo hx hZ e77 A_b6 4 (by decide) (by decide) (hb hby own_dI_78) ?_
  rintro _ ⟨y78, rfl⟩
  refine own_go (mkF m 80 #[rv t, rv w, jv y, .second, iv (4 : Int32), iv (4 : Int32)] [(.ref w), (.long y78), (.int (4 : Int32)), (.ref b6)]) (fun t' k => XS.aloadN X77.here hx rfl (hb hby own_dI_79) rfl rfl  k) ?_
  refine own_go (mkF m 82 #[rv t, rv w, jv y, .second, iv (4 : Int32), iv (4 : Int32)] [(.int (4 : Int32)), (.ref w), (.long y78), (.int (4 : Int32)), (.ref b6)]) (fun t' k => XS.iload X77.here hx rfl (hb hby own_dI_80) rfl  k) ?_
  refine own_go (mkF m 83 #[rv t, rv w, jv y, .second, iv (4 : Int32), iv (4 : Int32)] [(.int (1 : Int32)), (.int (4 : Int32)), (.ref w), (.long y78), (.int (4 : Int32)), (.ref b6)]) (fun t' k => XS.iconst X77.here hx rfl (hb hby own_dI_82) k) ?_
  refine own_go (mkF m 84 #[rv t, rv w, jv y, .second, iv (4 : Int32), iv (4 : Int32)] [(.int (3 : Int32)), (.ref w), (.long y78), (.int (4 : Int32)), (.ref b6)]) (fun t' k => XS.isub X77.here hx rfl (hb hby own_dI_83) rfl k) ?_
  refine X77.ldJo hx hZ e77 A_w 3 (by decide) (by decide) (hb hby own_dI_84) ?_
  rintro _ ⟨y79, rfl⟩
  refine own_go (mkF m 86 #[rv t, rv w, jv y, .second, iv (4 : Int32), iv (4 : Int32)] [(.long (y78 + y79)), (.int (4 : Int32)), (.ref b6)]) (fun t' k => XS.ladd X77.here hx rfl (hb hby own_dI_85) rfl k) ?_
  refine X77.stJo hx hZ e77 A_b6 g_b6 4 (by decide) (by decide) ⟨_, rfl⟩ (hb hby own_dI_86) ?_
  intro T80 h80 X80 e80 W80 A80
  replace A_b6 := A80
  replace E_t := E_t.wr W80
  replace A_w := A_w.other W80 (Nat.ne_of_lt lt_w_b6)
  replace F_climbsBetweenRebases := F_climbsBetweenRebases.other W80 (Or.inl (Nat.ne_of_lt lt_t_b6))
  replace F_weights := F_weights.other W80 (Or.inl (Nat.ne_of_lt lt_t_b6))
  replace F_present := F_present.other W80 (Or.inl (Nat.ne_of_lt lt_t_b6))
  replace F_sums := F_sums.other W80 (Or.inl (Nat.ne_of_lt lt_t_b6))
  replace F_counts := F_counts.other W80 (Or.inl (Nat.ne_of_lt lt_t_b6))
  replace F_top := F_top.other W80 (Or.inl (Nat.ne_of_lt lt_t_b6))
  replace F_total := F_total.other W80 (Or.inl (Nat.ne_of_lt lt_t_b6))
  replace F_taking := F_taking.other W80 (Or.inl (Nat.ne_of_lt lt_t_b6))
  replace F_rising := F_rising.other W80 (Or.inl (Nat.ne_of_lt lt_t_b6))
  replace F_risingCount := F_risingCount.other W80 (Or.inl (Nat.ne_of_lt lt_t_b6))
  replace A_b4 := A_b4.other W80 (Nat.ne_of_lt lt_b4_b6)
  replace A_b8 := A_b8.other W80 (Ne.symm (Nat.ne_of_lt lt_b6_b8))
  replace hn := Nat.le_trans hn (Keep.of_wr W80).1
  clear W80 X77 e77
  refine own_go (mkF m 88 #[rv t, rv w, jv y, .second, iv (4 : Int32), iv (4 : Int32)] [(.ref t)]) (fun t' k => XS.aloadN X80.here hx rfl (hb hby own_dI_87) rfl rfl  k) ?_
  refine X80.getF hx hZ hown (hw _ (List.mem_of_getElem? (i := 21) rfl)) e80 F_counts (hb hby own_dI_88) ?_
  intro T81 X81 e81
  refine own_go (mkF m 93 #[rv t, rv w, jv y, .second, iv (4 : Int32), iv (4 : Int32)] [(.int (4 : Int32)), (.ref b8)]) (fun t' k => XS.iload X81.here hx rfl (hb hby own_dI_91) rfl  k) ?_
  refine own_go (mkF m 94 #[rv t, rv w, jv y, .second, iv (4 : Int32), iv (4 : Int32)] [(.int (4 : Int32)), (.ref b8), (.int (4 : Int32)), (.ref b8)]) (fun t' k => Jvm.Free.XT.dup2 X81.here hx rfl (hb hby own_dI_93) rfl rfl rfl k) ?_
  refine X81.ldI hx hZ e81 A_b8 (v := (.int (3 : Int32))) 4 (by decide) rfl (hb hby own_dI_94) ?_
  refine own_go (mkF m 96 #[rv t, rv w, jv y, .second, iv (4 : Int32), iv (4 : Int32)] [(.int (1 : Int32)), (.int (3 : Int32)), (.int (4 : Int32)), (.ref b8)]) (fun t' k => XS.iconst X81.here hx rfl (hb hby own_dI_95) k) ?_
  refine own_go (mkF m 97 #[rv t, rv w, jv y, .second, iv (4 : Int32), iv (4 : Int32)] [(.int (4 : Int32)), (.int (4 : Int32)), (.ref b8)]) (fun t' k => XS.iadd X81.here hx rfl (hb hby own_dI_96) rfl k) ?_
  refine X81.stI hx hZ e81 A_b8 g_b8 4 (by decide) (Nat.le_of_ble_eq_true rfl) (hb hby own_dI_97) ?_
  intro T82 h82 X82 e82 W82 A82
  replace A_b8 : own_A Z h82 .int b8 [(.int (0 : Int32)), (.int (1 : Int32)), (.int (2 : Int32)), (.int (1 : Int32)), (.int (4 : Int32)), (.int (0 : Int32)), (.int (0 : Int32))] := A82
  clear A82
  replace E_t := E_t.wr W82
  replace A_w := A_w.other W82 (Nat.ne_of_lt lt_w_b8)
  replace F_climbsBetweenRebases := F_climbsBetweenRebases.other W82 (Or.inl (Nat.ne_of_lt lt_t_b8))
  replace F_weights := F_weights.other W82 (Or.inl (Nat.ne_of_lt lt_t_b8))
  replace F_present := F_present.other W82 (Or.inl (Nat.ne_of_lt lt_t_b8))
  replace F_sums := F_sums.other W82 (Or.inl (Nat.ne_of_lt lt_t_b8))
  replace F_counts := F_counts.other W82 (Or.inl (Nat.ne_of_lt lt_t_b8))
  replace F_top := F_top.other W82 (Or.inl (Nat.ne_of_lt lt_t_b8))
  replace F_total := F_total.other W82 (Or.inl (Nat.ne_of_lt lt_t_b8))
  replace F_taking := F_taking.other W82 (Or.inl (Nat.ne_of_lt lt_t_b8))
  replace F_rising := F_rising.other W82 (Or.inl (Nat.ne_of_lt lt_t_b8))
  replace F_risingCount := F_risingCount.other W82 (Or.inl (Nat.ne_of_lt lt_t_b8))
  replace A_b4 := A_b4.other W82 (Nat.ne_of_lt lt_b4_b8)
  replace A_b6 := A_b6.other W82 (Nat.ne_of_lt lt_b6_b8)
  replace hn := Nat.le_trans hn (Keep.of_wr W82).1
  clear W82 X81 e81
  refine own_go (mkF m 99 #[rv t, rv w, jv y, .second, iv (4 : Int32), iv (4 : Int32)] [(.ref t)]) (fun t' k => XS.aloadN X82.here hx rfl (hb hby own_dI_98) rfl rfl  k) ?_
  refine own_go (mkF m 100 #[rv t, rv w, jv y, .second, iv (4 : Int32), iv (4 : Int32)] [(.ref t), (.ref t)]) (fun t' k => XS.dup X82.here hx rfl (hb hby own_dI_99) rfl rfl k) ?_
  refine X82.getF hx hZ hown (hw _ (List.mem_of_getElem? (i := 34) rfl)) e82 F_total (hb hby own_dI_100) ?_
  intro T83 X83 e83
  refine own_go (mkF m 104 #[rv t, rv w, jv y, .second, iv (4 : Int32), iv (4 : Int32)] [(.ref w), (.long ug64), (.ref t)]) (fun t' k => XS.aloadN X83.here hx rfl (hb hby own_dI_103) rfl rfl  k) ?_
  refine own_go (mkF m 106 #[rv t, rv w, jv y, .second, iv (4 : Int32), iv (4 : Int32)] [(.int (4 : Int32)), (.ref w), (.long ug64), (.ref t)]) (fun t' k => XS.iload X83.here hx rfl (hb hby own_dI_104) rfl  k) ?_
  refine own_go (mkF m 107 #[rv t, rv w, jv y, .second, iv (4 : Int32), iv (4 : Int32)] [(.int (1 : Int32)), (.int (4 : Int32)), (.ref w), (.long ug64), (.ref t)]) (fun t' k => XS.iconst X83.here hx rfl (hb hby own_dI_106) k) ?_
  refine own_go (mkF m 108 #[rv t, rv w, jv y, .second, iv (4 : Int32), iv (4 : Int32)] [(.int (3 : Int32)), (.ref w), (.long ug64), (.ref t)]) (fun t' k => XS.isub X83.here hx rfl (hb hby own_dI_107) rfl k) ?_
  refine X83.ldJo hx hZ e83 A_w 3 (by decide) (by decide) (hb hby own_dI_108) ?_
  rintro _ ⟨y84, rfl⟩
  refine own_go (mkF m 110 #[rv t, rv w, jv y, .second, iv (4 : Int32), iv (4 : Int32)] [(.long (ug64 + y84)), (.ref t)]) (fun t' k => XS.ladd X83.here hx rfl (hb hby own_dI_109) rfl k) ?_
  refine X83.putF hx hZ hown (hw _ (List.mem_of_getElem? (i := 34) rfl)) e83 F_total E_t g_t (Or.inl (hw _ (List.mem_of_getElem? (i := 35) rfl))) (hw _ (List.mem_of_getElem? (i := 2) rfl)) (ty := .long) (by decide) rfl rfl (hb hby own_dI_110) ?_
  intro T85 h85 X85 e85 W85
  replace E_t := E_t.wr W85
  replace A_w := A_w.other W85 (Ne.symm ne_t_w)
  replace F_climbsBetweenRebases := F_climbsBetweenRebases.other W85 (Or.inr (own_sn_WeightTree_climbsBetweenRebases_total hw))
  replace F_weights := F_weights.other W85 (Or.inr (own_sn_WeightTree_weights_total hw))
  replace F_present := F_present.other W85 (Or.inr (own_sn_WeightTree_present_total hw))
  replace F_sums := F_sums.other W85 (Or.inr (own_sn_WeightTree_sums_total hw))
  replace F_counts := F_counts.other W85 (Or.inr (own_sn_WeightTree_counts_total hw))
  replace F_top := F_top.other W85 (Or.inr (own_sn_WeightTree_top_total hw))
  replace F_total := F_total.same W85
  replace F_taking := F_taking.other W85 (Or.inr (own_sn_WeightTree_taking_total hw))
  replace F_rising := F_rising.other W85 (Or.inr (own_sn_WeightTree_rising_total hw))
  replace F_risingCount := F_risingCount.other W85 (Or.inr (own_sn_WeightTree_risingCount_total hw))
  replace A_b4 := A_b4.other W85 (Ne.symm (Nat.ne_of_lt lt_t_b4))
  replace A_b6 := A_b6.other W85 (Ne.symm (Nat.ne_of_lt lt_t_b6))
  replace A_b8 := A_b8.other W85 (Ne.symm (Nat.ne_of_lt lt_t_b8))
  replace hn := Nat.le_trans hn (Keep.of_wr W85).1
  clear W85 X83 e83
  generalize (ug64 + y84) = ug85 at F_total
  refine own_go (mkF m 114 #[rv t, rv w, jv y, .second, iv (4 : Int32), iv (4 : Int32)] [(.ref t)]) (fun t' k => XS.aloadN X85.here hx rfl (hb hby own_dI_113) rfl rfl  k) ?_
  refine own_go (mkF m 115 #[rv t, rv w, jv y, .second, iv (4 : Int32), iv (4 : Int32)] [(.ref t), (.ref t)]) (fun t' k => XS.dup X85.here hx rfl (hb hby own_dI_114) rfl rfl k) ?_
  refine X85.getF hx hZ hown (hw _ (List.mem_of_getElem? (i := 36) rfl)) e85 F_taking (hb hby own_dI_115) ?_
  intro T86 X86 e86
  refine own_go (mkF m 119 #[rv t, rv w, jv y, .second, iv (4 : Int32), iv (4 : Int32)] [(.int (1 : Int32)), (.int (3 : Int32)), (.ref t)]) (fun t' k => XS.iconst X86.here hx rfl (hb hby own_dI_118) k) ?_
  refine own_go (mkF m 120 #[rv t, rv w, jv y, .second, iv (4 : Int32), iv (4 : Int32)] [(.int (4 : Int32)), (.ref t)]) (fun t' k => XS.iadd X86.here hx rfl (hb hby own_dI_119) rfl k) ?_
  refine X86.putF hx hZ hown (hw _ (List.mem_of_getElem? (i := 36) rfl)) e86 F_taking E_t g_t (Or.inl (hw _ (List.mem_of_getElem? (i := 37) rfl))) (hw _ (List.mem_of_getElem? (i := 2) rfl)) (ty := .int) (by decide) rfl rfl (hb hby own_dI_120) ?_
  intro T87 h87 X87 e87 W87
  replace E_t := E_t.wr W87
  replace A_w := A_w.other W87 (Ne.symm ne_t_w)
  replace F_climbsBetweenRebases := F_climbsBetweenRebases.other W87 (Or.inr (own_sn_WeightTree_climbsBetweenRebases_taking hw))
  replace F_weights := F_weights.other W87 (Or.inr (own_sn_WeightTree_weights_taking hw))
  replace F_present := F_present.other W87 (Or.inr (own_sn_WeightTree_present_taking hw))
  replace F_sums := F_sums.other W87 (Or.inr (own_sn_WeightTree_sums_taking hw))
  replace F_counts := F_counts.other W87 (Or.inr (own_sn_WeightTree_counts_taking hw))
  replace F_top := F_top.other W87 (Or.inr (own_sn_WeightTree_top_taking hw))
  replace F_total := F_total.other W87 (Or.inr (own_sn_WeightTree_total_taking hw))
  replace F_taking := F_taking.same W87
  replace F_rising := F_rising.other W87 (Or.inr (own_sn_WeightTree_rising_taking hw))
  replace F_risingCount := F_risingCount.other W87 (Or.inr (own_sn_WeightTree_risingCount_taking hw))
  replace A_b4 := A_b4.other W87 (Ne.symm (Nat.ne_of_lt lt_t_b4))
  replace A_b6 := A_b6.other W87 (Ne.symm (Nat.ne_of_lt lt_t_b6))
  replace A_b8 := A_b8.other W87 (Ne.symm (Nat.ne_of_lt lt_t_b8))
  replace hn := Nat.le_trans hn (Keep.of_wr W87).1
  clear W87 X86 e86
  refine own_go (mkF m 125 #[rv t, rv w, jv y, .second, iv (4 : Int32), iv (4 : Int32)] [(.int (4 : Int32))]) (fun t' k => XS.iload X87.here hx rfl (hb hby own_dI_123) rfl  k) ?_
  refine own_go (mkF m 127 #[rv t, rv w, jv y, .second, iv (4 : Int32), iv (4 : Int32)] [(.int (4 : Int32)), (.int (4 : Int32))]) (fun t' k => XS.iload X87.here hx rfl (hb hby own_dI_125) rfl  k) ?_
  refine own_go (mkF m 129 #[rv t, rv w, jv y, .second, iv (4 : Int32), iv (4 : Int32)] [(.int (4 : Int32)), (.int (4 : Int32)), (.int (4 : Int32))]) (fun t' k => XS.iload X87.here hx rfl (hb hby own_dI_127) rfl  k) ?_
  refine own_go (mkF m 130 #[rv t, rv w, jv y, .second, iv (4 : Int32), iv (4 : Int32)] [(.int (-4 : Int32)), (.int (4 : Int32)), (.int (4 : Int32))]) (fun t' k => XS.ineg X87.here hx rfl (hb hby own_dI_129) rfl k) ?_
  refine own_go (mkF m 131 #[rv t, rv w, jv y, .second, iv (4 : Int32), iv (4 : Int32)] [(.int (4 : Int32)), (.int (4 : Int32))]) (fun t' k => XS.iand X87.here hx rfl (hb hby own_dI_130) rfl k) ?_
  refine own_go (mkF m 132 #[rv t, rv w, jv y, .second, iv (4 : Int32), iv (4 : Int32)] [(.int (8 : Int32))]) (fun t' k => XS.iadd X87.here hx rfl (hb hby own_dI_131) rfl k) ?_
  refine own_go (mkF m 134 #[rv t, rv w, jv y, .second, iv (4 : Int32), iv (8 : Int32)] []) (fun t' k => XS.istore X87.here hx rfl (hb hby own_dI_132) rfl (l' := #[rv t, rv w, jv y, .second, iv (4 : Int32), iv (8 : Int32)]) rfl k) ?_
  refine own_go (mkF m 136 #[rv t, rv w, jv y, .second, iv (4 : Int32), iv (8 : Int32)] [(.int (8 : Int32))]) (fun t' k => XS.iload X87.here hx rfl (hb hby own_dI_134) rfl  k) ?_
  refine own_go (mkF m 137 #[rv t, rv w, jv y, .second, iv (4 : Int32), iv (8 : Int32)] [(.ref w), (.int (8 : Int32))]) (fun t' k => XS.aloadN X87.here hx rfl (hb hby own_dI_136) rfl rfl  k) ?_
  refine X87.aleno hx hZ e87 A_w (hb hby own_dI_137) ?_
  show own_G p e below s _ _ _ T87 (mkF m 138 #[rv t, rv w, jv y, .second, iv (4 : Int32), iv (8 : Int32)] [(.int (6 : Int32)), (.int (8 : Int32))])
  refine own_go (mkF m 175 #[rv t, rv w, jv y, .second, iv (4 : Int32), iv (8 : Int32)] []) (fun t' k => XS.icmpYes X87.here hx rfl (pc0 := 138) (pc' := 175) rfl (hb hby own_dI_138) rfl (tlt (by decide)).2.2.1 (by decide) (by decide) k) ?_
  refine own_go (mkF m 178 #[rv t, rv w, jv y, .second, iv (5 : Int32), iv (8 : Int32)] []) (fun t' k => XS.iinc X87.here hx rfl (hb hby own_dI_175) rfl (l' := #[rv t, rv w, jv y, .second, iv (5 : Int32), iv (8 : Int32)]) rfl k) ?_
  refine own_go (mkF m 54 #[rv t, rv w, jv y, .second, iv (5 : Int32), iv (8 : Int32)] []) (fun t' k => XS.goto X87.here hx rfl (pc0 := 178) (pc' := 54) rfl (hb hby own_dI_178) (by decide) (by decide) k) ?_
  refine own_go (mkF m 56 #[rv t, rv w, jv y, .second, iv (5 : Int32), iv (8 : Int32)] [(.int (5 : Int32))]) (fun t' k => XS.iload X87.here hx rfl (hb hby own_dI_54) rfl  k) ?_
  refine own_go (mkF m 57 #[rv t, rv w, jv y, .second, iv (5 : Int32), iv (8 : Int32)] [(.ref w), (.int (5 : Int32))]) (fun t' k => XS.aloadN X87.here hx rfl (hb hby own_dI_56) rfl rfl  k) ?_
  refine X87.aleno hx hZ e87 A_w (hb hby own_dI_57) ?_
  show own_G p e below s _ _ _ T87 (mkF m 58 #[rv t, rv w, jv y, .second, iv (5 : Int32), iv (8 : Int32)] [(.int (6 : Int32)), (.int (5 : Int32))])
  refine own_go (mkF m 61 #[rv t, rv w, jv y, .second, iv (5 : Int32), iv (8 : Int32)] []) (fun t' k => XS.icmpNo X87.here hx rfl (hb hby own_dI_58) rfl (flt (by decide)).2.2.1 k) ?_
  refine own_go (mkF m 62 #[rv t, rv w, jv y, .second, iv (5 : Int32), iv (8 : Int32)] [(.ref t)]) (fun t' k => XS.aloadN X87.here hx rfl (hb hby own_dI_61) rfl rfl  k) ?_
  refine X87.getF hx hZ hown (hw _ (List.mem_of_getElem? (i := 16) rfl)) e87 F_present (hb hby own_dI_62) ?_
  intro T88 X88 e88
  refine own_go (mkF m 67 #[rv t, rv w, jv y, .second, iv (5 : Int32), iv (8 : Int32)] [(.int (5 : Int32)), (.ref b4)]) (fun t' k => XS.iload X88.here hx rfl (hb hby own_dI_65) rfl  k) ?_
  refine own_go (mkF m 68 #[rv t, rv w, jv y, .second, iv (5 : Int32), iv (8 : Int32)] [(.int (1 : Int32)), (.int (5 : Int32)), (.ref b4)]) (fun t' k => XS.iconst X88.here hx rfl (hb hby own_dI_67) k) ?_
  refine own_go (mkF m 69 #[rv t, rv w, jv y, .second, iv (5 : Int32), iv (8 : Int32)] [(.int (4 : Int32)), (.ref b4)]) (fun t' k => XS.isub X88.here hx rfl (hb hby own_dI_68) rfl k) ?_
  refine own_go (mkF m 70 #[rv t, rv w, jv y, .second, iv (5 : Int32), iv (8 : Int32)] [(.int (1 : Int32)), (.int (4 : Int32)), (.ref b4)]) (fun t' k => XS.iconst X88.here hx rfl (hb hby own_dI_69) k) ?_
  refine X88.stZo hx hZ e88 A_b4 g_b4 4 (by decide) (by decide) ⟨_, rfl⟩ (hb hby own_dI_70) ?_
  intro T89 h89 X89 e89 W89 A89
  replace A_b4 := A89
  replace E_t := E_t.wr W89
  replace A_w := A_w.other W89 (Nat.ne_of_lt lt_w_b4)
  replace F_climbsBetweenRebases := F_climbsBetweenRebases.other W89 (Or.inl (Nat.ne_of_lt lt_t_b4))
  replace F_weights := F_weights.other W89 (Or.inl (Nat.ne_of_lt lt_t_b4))
  replace F_present := F_present.other W89 (Or.inl (Nat.ne_of_lt lt_t_b4))
  replace F_sums := F_sums.other W89 (Or.inl (Nat.ne_of_lt lt_t_b4))
  replace F_counts := F_counts.other W89 (Or.inl (Nat.ne_of_lt lt_t_b4))
  replace F_top := F_top.other W89 (Or.inl (Nat.ne_of_lt lt_t_b4))
  replace F_total := F_total.other W89 (Or.inl (Nat.ne_of_lt lt_t_b4))
  replace F_taking := F_taking.other W89 (Or.inl (Nat.ne_of_lt lt_t_b4))
  replace F_rising := F_rising.other W89 (Or.inl (Nat.ne_of_lt lt_t_b4))
  replace F_risingCount := F_risingCount.other W89 (Or.inl (Nat.ne_of_lt lt_t_b4))
  replace A_b6 := A_b6.other W89 (Ne.symm (Nat.ne_of_lt lt_b4_b6))
  replace A_b8 := A_b8.other W89 (Ne.symm (Nat.ne_of_lt lt_b4_b8))
  replace hn := Nat.le_trans hn (Keep.of_wr W89).1
  clear W89 X88 e88
  refine own_go (mkF m 72 #[rv t, rv w, jv y, .second, iv (5 : Int32), iv (8 : Int32)] [(.ref t)]) (fun t' k => XS.aloadN X89.here hx rfl (hb hby own_dI_71) rfl rfl  k) ?_
  refine X89.getF hx hZ hown (hw _ (List.mem_of_getElem? (i := 18) rfl)) e89 F_sums (hb hby own_dI_72) ?_
  intro T90 X90 e90
  refine own_go (mkF m 77 #[rv t, rv w, jv y, .second, iv (5 : Int32), iv (8 : Int32)] [(.int (5 : Int32)), (.ref b6)]) (fun t' k => XS.iload X90.here hx rfl (hb hby own_dI_75) rfl  k) ?_
  refine own_go (mkF m 78 #[rv t, rv w, jv y, .second, iv (5 : Int32), iv (8 : Int32)] [(.int (5 : Int32)), (.ref b6), (.int (5 : Int32)), (.ref b6)]) (fun t' k => Jvm.Free.XT.dup2 X90.here hx rfl (hb hby own_dI_77) rfl rfl rfl k) ?_
  refine X90.ldJo hx hZ e90 A_b6 5 (by decide) (by decide) (hb hby own_dI_78) ?_
  rintro _ ⟨y91, rfl⟩
  refine own_go (mkF m 80 #[rv t, rv w, jv y, .second, iv (5 : Int32), iv (8 : Int32)] [(.ref w), (.long y91), (.int (5 : Int32)), (.ref b6)]) (fun t' k => XS.aloadN X90.here hx rfl (hb hby own_dI_79) rfl rfl  k) ?_
  refine own_go (mkF m 82 #[rv t, rv w, jv y, .second, iv (5 : Int32), iv (8 : Int32)] [(.int (5 : Int32)), (.ref w), (.long y91), (.int (5 : Int32)), (.ref b6)]) (fun t' k => XS.iload X90.here hx rfl (hb hby own_dI_80) rfl  k) ?_
  refine own_go (mkF m 83 #[rv t, rv w, jv y, .second, iv (5 : Int32), iv (8 : Int32)] [(.int (1 : Int32)), (.int (5 : Int32)), (.ref w), (.long y91), (.int (5 : Int32)), (.ref b6)]) (fun t' k => XS.iconst X90.here hx rfl (hb hby own_dI_82) k) ?_
  refine own_go (mkF m 84 #[rv t, rv w, jv y, .second, iv (5 : Int32), iv (8 : Int32)] [(.int (4 : Int32)), (.ref w), (.long y91), (.int (5 : Int32)), (.ref b6)]) (fun t' k => XS.isub X90.here hx rfl (hb hby own_dI_83) rfl k) ?_
  refine X90.ldJo hx hZ e90 A_w 4 (by decide) (by decide) (hb hby own_dI_84) ?_
  rintro _ ⟨y92, rfl⟩
  refine own_go (mkF m 86 #[rv t, rv w, jv y, .second, iv (5 : Int32), iv (8 : Int32)] [(.long (y91 + y92)), (.int (5 : Int32)), (.ref b6)]) (fun t' k => XS.ladd X90.here hx rfl (hb hby own_dI_85) rfl k) ?_
  refine X90.stJo hx hZ e90 A_b6 g_b6 5 (by decide) (by decide) ⟨_, rfl⟩ (hb hby own_dI_86) ?_
  intro T93 h93 X93 e93 W93 A93
  replace A_b6 := A93
  replace E_t := E_t.wr W93
  replace A_w := A_w.other W93 (Nat.ne_of_lt lt_w_b6)
  replace F_climbsBetweenRebases := F_climbsBetweenRebases.other W93 (Or.inl (Nat.ne_of_lt lt_t_b6))
  replace F_weights := F_weights.other W93 (Or.inl (Nat.ne_of_lt lt_t_b6))
  replace F_present := F_present.other W93 (Or.inl (Nat.ne_of_lt lt_t_b6))
  replace F_sums := F_sums.other W93 (Or.inl (Nat.ne_of_lt lt_t_b6))
  replace F_counts := F_counts.other W93 (Or.inl (Nat.ne_of_lt lt_t_b6))
  replace F_top := F_top.other W93 (Or.inl (Nat.ne_of_lt lt_t_b6))
  replace F_total := F_total.other W93 (Or.inl (Nat.ne_of_lt lt_t_b6))
  replace F_taking := F_taking.other W93 (Or.inl (Nat.ne_of_lt lt_t_b6))
  replace F_rising := F_rising.other W93 (Or.inl (Nat.ne_of_lt lt_t_b6))
  replace F_risingCount := F_risingCount.other W93 (Or.inl (Nat.ne_of_lt lt_t_b6))
  replace A_b4 := A_b4.other W93 (Nat.ne_of_lt lt_b4_b6)
  replace A_b8 := A_b8.other W93 (Ne.symm (Nat.ne_of_lt lt_b6_b8))
  replace hn := Nat.le_trans hn (Keep.of_wr W93).1
  clear W93 X90 e90
  refine own_go (mkF m 88 #[rv t, rv w, jv y, .second, iv (5 : Int32), iv (8 : Int32)] [(.ref t)]) (fun t' k => XS.aloadN X93.here hx rfl (hb hby own_dI_87) rfl rfl  k) ?_
  refine X93.getF hx hZ hown (hw _ (List.mem_of_getElem? (i := 21) rfl)) e93 F_counts (hb hby own_dI_88) ?_
  intro T94 X94 e94
  refine own_go (mkF m 93 #[rv t, rv w, jv y, .second, iv (5 : Int32), iv (8 : Int32)] [(.int (5 : Int32)), (.ref b8)]) (fun t' k => XS.iload X94.here hx rfl (hb hby own_dI_91) rfl  k) ?_
  refine own_go (mkF m 94 #[rv t, rv w, jv y, .second, iv (5 : Int32), iv (8 : Int32)] [(.int (5 : Int32)), (.ref b8), (.int (5 : Int32)), (.ref b8)]) (fun t' k => Jvm.Free.XT.dup2 X94.here hx rfl (hb hby own_dI_93) rfl rfl rfl k) ?_
  refine X94.ldI hx hZ e94 A_b8 (v := (.int (0 : Int32))) 5 (by decide) rfl (hb hby own_dI_94) ?_
  refine own_go (mkF m 96 #[rv t, rv w, jv y, .second, iv (5 : Int32), iv (8 : Int32)] [(.int (1 : Int32)), (.int (0 : Int32)), (.int (5 : Int32)), (.ref b8)]) (fun t' k => XS.iconst X94.here hx rfl (hb hby own_dI_95) k) ?_
  refine own_go (mkF m 97 #[rv t, rv w, jv y, .second, iv (5 : Int32), iv (8 : Int32)] [(.int (1 : Int32)), (.int (5 : Int32)), (.ref b8)]) (fun t' k => XS.iadd X94.here hx rfl (hb hby own_dI_96) rfl k) ?_
  refine X94.stI hx hZ e94 A_b8 g_b8 5 (by decide) (Nat.le_of_ble_eq_true rfl) (hb hby own_dI_97) ?_
  intro T95 h95 X95 e95 W95 A95
  replace A_b8 : own_A Z h95 .int b8 [(.int (0 : Int32)), (.int (1 : Int32)), (.int (2 : Int32)), (.int (1 : Int32)), (.int (4 : Int32)), (.int (1 : Int32)), (.int (0 : Int32))] := A95
  clear A95
  replace E_t := E_t.wr W95
  replace A_w := A_w.other W95 (Nat.ne_of_lt lt_w_b8)
  replace F_climbsBetweenRebases := F_climbsBetweenRebases.other W95 (Or.inl (Nat.ne_of_lt lt_t_b8))
  replace F_weights := F_weights.other W95 (Or.inl (Nat.ne_of_lt lt_t_b8))
  replace F_present := F_present.other W95 (Or.inl (Nat.ne_of_lt lt_t_b8))
  replace F_sums := F_sums.other W95 (Or.inl (Nat.ne_of_lt lt_t_b8))
  replace F_counts := F_counts.other W95 (Or.inl (Nat.ne_of_lt lt_t_b8))
  replace F_top := F_top.other W95 (Or.inl (Nat.ne_of_lt lt_t_b8))
  replace F_total := F_total.other W95 (Or.inl (Nat.ne_of_lt lt_t_b8))
  replace F_taking := F_taking.other W95 (Or.inl (Nat.ne_of_lt lt_t_b8))
  replace F_rising := F_rising.other W95 (Or.inl (Nat.ne_of_lt lt_t_b8))
  replace F_risingCount := F_risingCount.other W95 (Or.inl (Nat.ne_of_lt lt_t_b8))
  replace A_b4 := A_b4.other W95 (Nat.ne_of_lt lt_b4_b8)
  replace A_b6 := A_b6.other W95 (Nat.ne_of_lt lt_b6_b8)
  replace hn := Nat.le_trans hn (Keep.of_wr W95).1
  clear W95 X94 e94
  refine own_go (mkF m 99 #[rv t, rv w, jv y, .second, iv (5 : Int32), iv (8 : Int32)] [(.ref t)]) (fun t' k => XS.aloadN X95.here hx rfl (hb hby own_dI_98) rfl rfl  k) ?_
  refine own_go (mkF m 100 #[rv t, rv w, jv y, .second, iv (5 : Int32), iv (8 : Int32)] [(.ref t), (.ref t)]) (fun t' k => XS.dup X95.here hx rfl (hb hby own_dI_99) rfl rfl k) ?_
  refine X95.getF hx hZ hown (hw _ (List.mem_of_getElem? (i := 34) rfl)) e95 F_total (hb hby own_dI_100) ?_
  intro T96 X96 e96
  refine own_go (mkF m 104 #[rv t, rv w, jv y, .second, iv (5 : Int32), iv (8 : Int32)] [(.ref w), (.long ug85), (.ref t)]) (fun t' k => XS.aloadN X96.here hx rfl (hb hby own_dI_103) rfl rfl  k) ?_
  refine own_go (mkF m 106 #[rv t, rv w, jv y, .second, iv (5 : Int32), iv (8 : Int32)] [(.int (5 : Int32)), (.ref w), (.long ug85), (.ref t)]) (fun t' k => XS.iload X96.here hx rfl (hb hby own_dI_104) rfl  k) ?_
  refine own_go (mkF m 107 #[rv t, rv w, jv y, .second, iv (5 : Int32), iv (8 : Int32)] [(.int (1 : Int32)), (.int (5 : Int32)), (.ref w), (.long ug85), (.ref t)]) (fun t' k => XS.iconst X96.here hx rfl (hb hby own_dI_106) k) ?_
  refine own_go (mkF m 108 #[rv t, rv w, jv y, .second, iv (5 : Int32), iv (8 : Int32)] [(.int (4 : Int32)), (.ref w), (.long ug85), (.ref t)]) (fun t' k => XS.isub X96.here hx rfl (hb hby own_dI_107) rfl k) ?_
  refine X96.ldJo hx hZ e96 A_w 4 (by decide) (by decide) (hb hby own_dI_108) ?_
  rintro _ ⟨y97, rfl⟩
  refine own_go (mkF m 110 #[rv t, rv w, jv y, .second, iv (5 : Int32), iv (8 : Int32)] [(.long (ug85 + y97)), (.ref t)]) (fun t' k => XS.ladd X96.here hx rfl (hb hby own_dI_109) rfl k) ?_
  refine X96.putF hx hZ hown (hw _ (List.mem_of_getElem? (i := 34) rfl)) e96 F_total E_t g_t (Or.inl (hw _ (List.mem_of_getElem? (i := 35) rfl))) (hw _ (List.mem_of_getElem? (i := 2) rfl)) (ty := .long) (by decide) rfl rfl (hb hby own_dI_110) ?_
  intro T98 h98 X98 e98 W98
  replace E_t := E_t.wr W98
  replace A_w := A_w.other W98 (Ne.symm ne_t_w)
  replace F_climbsBetweenRebases := F_climbsBetweenRebases.other W98 (Or.inr (own_sn_WeightTree_climbsBetweenRebases_total hw))
  replace F_weights := F_weights.other W98 (Or.inr (own_sn_WeightTree_weights_total hw))
  replace F_present := F_present.other W98 (Or.inr (own_sn_WeightTree_present_total hw))
  replace F_sums := F_sums.other W98 (Or.inr (own_sn_WeightTree_sums_total hw))
  replace F_counts := F_counts.other W98 (Or.inr (own_sn_WeightTree_counts_total hw))
  replace F_top := F_top.other W98 (Or.inr (own_sn_WeightTree_top_total hw))
  replace F_total := F_total.same W98
  replace F_taking := F_taking.other W98 (Or.inr (own_sn_WeightTree_taking_total hw))
  replace F_rising := F_rising.other W98 (Or.inr (own_sn_WeightTree_rising_total hw))
  replace F_risingCount := F_risingCount.other W98 (Or.inr (own_sn_WeightTree_risingCount_total hw))
  replace A_b4 := A_b4.other W98 (Ne.symm (Nat.ne_of_lt lt_t_b4))
  replace A_b6 := A_b6.other W98 (Ne.symm (Nat.ne_of_lt lt_t_b6))
  replace A_b8 := A_b8.other W98 (Ne.symm (Nat.ne_of_lt lt_t_b8))
  replace hn := Nat.le_trans hn (Keep.of_wr W98).1
  clear W98 X96 e96
  generalize (ug85 + y97) = ug98 at F_total
  refine own_go (mkF m 114 #[rv t, rv w, jv y, .second, iv (5 : Int32), iv (8 : Int32)] [(.ref t)]) (fun t' k => XS.aloadN X98.here hx rfl (hb hby own_dI_113) rfl rfl  k) ?_
  refine own_go (mkF m 115 #[rv t, rv w, jv y, .second, iv (5 : Int32), iv (8 : Int32)] [(.ref t), (.ref t)]) (fun t' k => XS.dup X98.here hx rfl (hb hby own_dI_114) rfl rfl k) ?_
  refine X98.getF hx hZ hown (hw _ (List.mem_of_getElem? (i := 36) rfl)) e98 F_taking (hb hby own_dI_115) ?_
  intro T99 X99 e99
  refine own_go (mkF m 119 #[rv t, rv w, jv y, .second, iv (5 : Int32), iv (8 : Int32)] [(.int (1 : Int32)), (.int (4 : Int32)), (.ref t)]) (fun t' k => XS.iconst X99.here hx rfl (hb hby own_dI_118) k) ?_
  refine own_go (mkF m 120 #[rv t, rv w, jv y, .second, iv (5 : Int32), iv (8 : Int32)] [(.int (5 : Int32)), (.ref t)]) (fun t' k => XS.iadd X99.here hx rfl (hb hby own_dI_119) rfl k) ?_
  refine X99.putF hx hZ hown (hw _ (List.mem_of_getElem? (i := 36) rfl)) e99 F_taking E_t g_t (Or.inl (hw _ (List.mem_of_getElem? (i := 37) rfl))) (hw _ (List.mem_of_getElem? (i := 2) rfl)) (ty := .int) (by decide) rfl rfl (hb hby own_dI_120) ?_
  intro T100 h100 X100 e100 W100
  replace E_t := E_t.wr W100
  replace A_w := A_w.other W100 (Ne.symm ne_t_w)
  replace F_climbsBetweenRebases := F_climbsBetweenRebases.other W100 (Or.inr (own_sn_WeightTree_climbsBetweenRebases_taking hw))
  replace F_weights := F_weights.other W100 (Or.inr (own_sn_WeightTree_weights_taking hw))
  replace F_present := F_present.other W100 (Or.inr (own_sn_WeightTree_present_taking hw))
  replace F_sums := F_sums.other W100 (Or.inr (own_sn_WeightTree_sums_taking hw))
  replace F_counts := F_counts.other W100 (Or.inr (own_sn_WeightTree_counts_taking hw))
  replace F_top := F_top.other W100 (Or.inr (own_sn_WeightTree_top_taking hw))
  replace F_total := F_total.other W100 (Or.inr (own_sn_WeightTree_total_taking hw))
  replace F_taking := F_taking.same W100
  replace F_rising := F_rising.other W100 (Or.inr (own_sn_WeightTree_rising_taking hw))
  replace F_risingCount := F_risingCount.other W100 (Or.inr (own_sn_WeightTree_risingCount_taking hw))
  replace A_b4 := A_b4.other W100 (Ne.symm (Nat.ne_of_lt lt_t_b4))
  replace A_b6 := A_b6.other W100 (Ne.symm (Nat.ne_of_lt lt_t_b6))
  replace A_b8 := A_b8.other W100 (Ne.symm (Nat.ne_of_lt lt_t_b8))
  replace hn := Nat.le_trans hn (Keep.of_wr W100).1
  clear W100 X99 e99
  refine own_go (mkF m 125 #[rv t, rv w, jv y, .second, iv (5 : Int32), iv (8 : Int32)] [(.int (5 : Int32))]) (fun t' k => XS.iload X100.here hx rfl (hb hby own_dI_123) rfl  k) ?_
  refine own_go (mkF m 127 #[rv t, rv w, jv y, .second, iv (5 : Int32), iv (8 : Int32)] [(.int (5 : Int32)), (.int (5 : Int32))]) (fun t' k => XS.iload X100.here hx rfl (hb hby own_dI_125) rfl  k) ?_
  refine own_go (mkF m 129 #[rv t, rv w, jv y, .second, iv (5 : Int32), iv (8 : Int32)] [(.int (5 : Int32)), (.int (5 : Int32)), (.int (5 : Int32))]) (fun t' k => XS.iload X100.here hx rfl (hb hby own_dI_127) rfl  k) ?_
  refine own_go (mkF m 130 #[rv t, rv w, jv y, .second, iv (5 : Int32), iv (8 : Int32)] [(.int (-5 : Int32)), (.int (5 : Int32)), (.int (5 : Int32))]) (fun t' k => XS.ineg X100.here hx rfl (hb hby own_dI_129) rfl k) ?_
  refine own_go (mkF m 131 #[rv t, rv w, jv y, .second, iv (5 : Int32), iv (8 : Int32)] [(.int (1 : Int32)), (.int (5 : Int32))]) (fun t' k => XS.iand X100.here hx rfl (hb hby own_dI_130) rfl k) ?_
  refine own_go (mkF m 132 #[rv t, rv w, jv y, .second, iv (5 : Int32), iv (8 : Int32)] [(.int (6 : Int32))]) (fun t' k => XS.iadd X100.here hx rfl (hb hby own_dI_131) rfl k) ?_
  refine own_go (mkF m 134 #[rv t, rv w, jv y, .second, iv (5 : Int32), iv (6 : Int32)] []) (fun t' k => XS.istore X100.here hx rfl (hb hby own_dI_132) rfl (l' := #[rv t, rv w, jv y, .second, iv (5 : Int32), iv (6 : Int32)]) rfl k) ?_
  refine own_go (mkF m 136 #[rv t, rv w, jv y, .second, iv (5 : Int32), iv (6 : Int32)] [(.int (6 : Int32))]) (fun t' k => XS.iload X100.here hx rfl (hb hby own_dI_134) rfl  k) ?_
  refine own_go (mkF m 137 #[rv t, rv w, jv y, .second, iv (5 : Int32), iv (6 : Int32)] [(.ref w), (.int (6 : Int32))]) (fun t' k => XS.aloadN X100.here hx rfl (hb hby own_dI_136) rfl rfl  k) ?_
  refine X100.aleno hx hZ e100 A_w (hb hby own_dI_137) ?_
  show own_G p e below s _ _ _ T100 (mkF m 138 #[rv t, rv w, jv y, .second, iv (5 : Int32), iv (6 : Int32)] [(.int (6 : Int32)), (.int (6 : Int32))])
  refine own_go (mkF m 141 #[rv t, rv w, jv y, .second, iv (5 : Int32), iv (6 : Int32)] []) (fun t' k => XS.icmpNo X100.here hx rfl (hb hby own_dI_138) rfl (flt (by decide)).2.2.1 k) ?_
  refine own_go (mkF m 142 #[rv t, rv w, jv y, .second, iv (5 : Int32), iv (6 : Int32)] [(.ref t)]) (fun t' k => XS.aloadN X100.here hx rfl (hb hby own_dI_141) rfl rfl  k) ?_
  refine X100.getF hx hZ hown (hw _ (List.mem_of_getElem? (i := 18) rfl)) e100 F_sums (hb hby own_dI_142) ?_
  intro T101 X101 e101
  refine own_go (mkF m 147 #[rv t, rv w, jv y, .second, iv (5 : Int32), iv (6 : Int32)] [(.int (6 : Int32)), (.ref b6)]) (fun t' k => XS.iload X101.here hx rfl (hb hby own_dI_145) rfl  k) ?_
  refine own_go (mkF m 148 #[rv t, rv w, jv y, .second, iv (5 : Int32), iv (6 : Int32)] [(.int (6 : Int32)), (.ref b6), (.int (6 : Int32)), (.ref b6)]) (fun t' k => Jvm.Free.XT.dup2 X101.here hx rfl (hb hby own_dI_147) rfl rfl rfl k) ?_
  refine X101.ldJo hx hZ e101 A_b6 6 (by decide) (by decide) (hb hby own_dI_148) ?_
  rintro _ ⟨y102, rfl⟩
  refine own_go (mkF m 150 #[rv t, rv w, jv y, .second, iv (5 : Int32), iv (6 : Int32)] [(.ref t), (.long y102), (.int (6 : Int32)), (.ref b6)]) (fun t' k => XS.aloadN X101.here hx rfl (hb hby own_dI_149) rfl rfl  k) ?_
  refine X101.getF hx hZ hown (hw _ (List.mem_of_getElem? (i := 18) rfl)) e101 F_sums (hb hby own_dI_150) ?_
  intro T103 X103 e103
  refine own_go (mkF m 155 #[rv t, rv w, jv y, .second, iv (5 : Int32), iv (6 : Int32)] [(.int (5 : Int32)), (.ref b6), (.long y102), (.int (6 : Int32)), (.ref b6)]) (fun t' k => XS.iload X103.here hx rfl (hb hby own_dI_153) rfl  k) ?_
  refine X103.ldJo hx hZ e103 A_b6 5 (by decide) (by decide) (hb hby own_dI_155) ?_
  rintro _ ⟨y104, rfl⟩
  refine own_go (mkF m 157 #[rv t, rv w, jv y, .second, iv (5 : Int32), iv (6 : Int32)] [(.long (y102 + y104)), (.int (6 : Int32)), (.ref b6)]) (fun t' k => XS.ladd X103.here hx rfl (hb hby own_dI_156) rfl k) ?_
  refine X103.stJo hx hZ e103 A_b6 g_b6 6 (by decide) (by decide) ⟨_, rfl⟩ (hb hby own_dI_157) ?_
  intro T105 h105 X105 e105 W105 A105
  replace A_b6 := A105
  replace E_t := E_t.wr W105
  replace A_w := A_w.other W105 (Nat.ne_of_lt lt_w_b6)
  replace F_climbsBetweenRebases := F_climbsBetweenRebases.other W105 (Or.inl (Nat.ne_of_lt lt_t_b6))
  replace F_weights := F_weights.other W105 (Or.inl (Nat.ne_of_lt lt_t_b6))
  replace F_present := F_present.other W105 (Or.inl (Nat.ne_of_lt lt_t_b6))
  replace F_sums := F_sums.other W105 (Or.inl (Nat.ne_of_lt lt_t_b6))
  replace F_counts := F_counts.other W105 (Or.inl (Nat.ne_of_lt lt_t_b6))
  replace F_top := F_top.other W105 (Or.inl (Nat.ne_of_lt lt_t_b6))
  replace F_total := F_total.other W105 (Or.inl (Nat.ne_of_lt lt_t_b6))
  replace F_taking := F_taking.other W105 (Or.inl (Nat.ne_of_lt lt_t_b6))
  replace F_rising := F_rising.other W105 (Or.inl (Nat.ne_of_lt lt_t_b6))
  replace F_risingCount := F_risingCount.other W105 (Or.inl (Nat.ne_of_lt lt_t_b6))
  replace A_b4 := A_b4.other W105 (Nat.ne_of_lt lt_b4_b6)
  replace A_b8 := A_b8.other W105 (Ne.symm (Nat.ne_of_lt lt_b6_b8))
  replace hn := Nat.le_trans hn (Keep.of_wr W105).1
  clear W105 X103 e103
  refine own_go (mkF m 159 #[rv t, rv w, jv y, .second, iv (5 : Int32), iv (6 : Int32)] [(.ref t)]) (fun t' k => XS.aloadN X105.here hx rfl (hb hby own_dI_158) rfl rfl  k) ?_
  refine X105.getF hx hZ hown (hw _ (List.mem_of_getElem? (i := 21) rfl)) e105 F_counts (hb hby own_dI_159) ?_
  intro T106 X106 e106
  refine own_go (mkF m 164 #[rv t, rv w, jv y, .second, iv (5 : Int32), iv (6 : Int32)] [(.int (6 : Int32)), (.ref b8)]) (fun t' k => XS.iload X106.here hx rfl (hb hby own_dI_162) rfl  k) ?_
  refine own_go (mkF m 165 #[rv t, rv w, jv y, .second, iv (5 : Int32), iv (6 : Int32)] [(.int (6 : Int32)), (.ref b8), (.int (6 : Int32)), (.ref b8)]) (fun t' k => Jvm.Free.XT.dup2 X106.here hx rfl (hb hby own_dI_164) rfl rfl rfl k) ?_
  refine X106.ldI hx hZ e106 A_b8 (v := (.int (0 : Int32))) 6 (by decide) rfl (hb hby own_dI_165) ?_
  refine own_go (mkF m 167 #[rv t, rv w, jv y, .second, iv (5 : Int32), iv (6 : Int32)] [(.ref t), (.int (0 : Int32)), (.int (6 : Int32)), (.ref b8)]) (fun t' k => XS.aloadN X106.here hx rfl (hb hby own_dI_166) rfl rfl  k) ?_
  refine X106.getF hx hZ hown (hw _ (List.mem_of_getElem? (i := 21) rfl)) e106 F_counts (hb hby own_dI_167) ?_
  intro T107 X107 e107
  refine own_go (mkF m 172 #[rv t, rv w, jv y, .second, iv (5 : Int32), iv (6 : Int32)] [(.int (5 : Int32)), (.ref b8), (.int (0 : Int32)), (.int (6 : Int32)), (.ref b8)]) (fun t' k => XS.iload X107.here hx rfl (hb hby own_dI_170) rfl  k) ?_
  refine X107.ldI hx hZ e107 A_b8 (v := (.int (1 : Int32))) 5 (by decide) rfl (hb hby own_dI_172) ?_
  refine own_go (mkF m 174 #[rv t, rv w, jv y, .second, iv (5 : Int32), iv (6 : Int32)] [(.int (1 : Int32)), (.int (6 : Int32)), (.ref b8)]) (fun t' k => XS.iadd X107.here hx rfl (hb hby own_dI_173) rfl k) ?_
  refine X107.stI hx hZ e107 A_b8 g_b8 6 (by decide) (Nat.le_of_ble_eq_true rfl) (hb hby own_dI_174) ?_
  intro T108 h108 X108 e108 W108 A108
  replace A_b8 : own_A Z h108 .int b8 [(.int (0 : Int32)), (.int (1 : Int32)), (.int (2 : Int32)), (.int (1 : Int32)), (.int (4 : Int32)), (.int (1 : Int32)), (.int (1 : Int32))] := A108
  clear A108
  replace E_t := E_t.wr W108
  replace A_w := A_w.other W108 (Nat.ne_of_lt lt_w_b8)
  replace F_climbsBetweenRebases := F_climbsBetweenRebases.other W108 (Or.inl (Nat.ne_of_lt lt_t_b8))
  replace F_weights := F_weights.other W108 (Or.inl (Nat.ne_of_lt lt_t_b8))
  replace F_present := F_present.other W108 (Or.inl (Nat.ne_of_lt lt_t_b8))
  replace F_sums := F_sums.other W108 (Or.inl (Nat.ne_of_lt lt_t_b8))
  replace F_counts := F_counts.other W108 (Or.inl (Nat.ne_of_lt lt_t_b8))
  replace F_top := F_top.other W108 (Or.inl (Nat.ne_of_lt lt_t_b8))
  replace F_total := F_total.other W108 (Or.inl (Nat.ne_of_lt lt_t_b8))
  replace F_taking := F_taking.other W108 (Or.inl (Nat.ne_of_lt lt_t_b8))
  replace F_rising := F_rising.other W108 (Or.inl (Nat.ne_of_lt lt_t_b8))
  replace F_risingCount := F_risingCount.other W108 (Or.inl (Nat.ne_of_lt lt_t_b8))
  replace A_b4 := A_b4.other W108 (Nat.ne_of_lt lt_b4_b8)
  replace A_b6 := A_b6.other W108 (Nat.ne_of_lt lt_b6_b8)
  replace hn := Nat.le_trans hn (Keep.of_wr W108).1
  clear W108 X107 e107
  refine own_go (mkF m 178 #[rv t, rv w, jv y, .second, iv (6 : Int32), iv (6 : Int32)] []) (fun t' k => XS.iinc X108.here hx rfl (hb hby own_dI_175) rfl (l' := #[rv t, rv w, jv y, .second, iv (6 : Int32), iv (6 : Int32)]) rfl k) ?_
  refine own_go (mkF m 54 #[rv t, rv w, jv y, .second, iv (6 : Int32), iv (6 : Int32)] []) (fun t' k => XS.goto X108.here hx rfl (pc0 := 178) (pc' := 54) rfl (hb hby own_dI_178) (by decide) (by decide) k) ?_
  refine own_go (mkF m 56 #[rv t, rv w, jv y, .second, iv (6 : Int32), iv (6 : Int32)] [(.int (6 : Int32))]) (fun t' k => XS.iload X108.here hx rfl (hb hby own_dI_54) rfl  k) ?_
  refine own_go (mkF m 57 #[rv t, rv w, jv y, .second, iv (6 : Int32), iv (6 : Int32)] [(.ref w), (.int (6 : Int32))]) (fun t' k => XS.aloadN X108.here hx rfl (hb hby own_dI_56) rfl rfl  k) ?_
  refine X108.aleno hx hZ e108 A_w (hb hby own_dI_57) ?_
  show own_G p e below s _ _ _ T108 (mkF m 58 #[rv t, rv w, jv y, .second, iv (6 : Int32), iv (6 : Int32)] [(.int (6 : Int32)), (.int (6 : Int32))])
  refine own_go (mkF m 61 #[rv t, rv w, jv y, .second, iv (6 : Int32), iv (6 : Int32)] []) (fun t' k => XS.icmpNo X108.here hx rfl (hb hby own_dI_58) rfl (flt (by decide)).2.2.1 k) ?_
  refine own_go (mkF m 62 #[rv t, rv w, jv y, .second, iv (6 : Int32), iv (6 : Int32)] [(.ref t)]) (fun t' k => XS.aloadN X108.here hx rfl (hb hby own_dI_61) rfl rfl  k) ?_
  refine X108.getF hx hZ hown (hw _ (List.mem_of_getElem? (i := 16) rfl)) e108 F_present (hb hby own_dI_62) ?_
  intro T109 X109 e109
  refine own_go (mkF m 67 #[rv t, rv w, jv y, .second, iv (6 : Int32), iv (6 : Int32)] [(.int (6 : Int32)), (.ref b4)]) (fun t' k => XS.iload X109.here hx rfl (hb hby own_dI_65) rfl  k) ?_
  refine own_go (mkF m 68 #[rv t, rv w, jv y, .second, iv (6 : Int32), iv (6 : Int32)] [(.int (1 : Int32)), (.int (6 : Int32)), (.ref b4)]) (fun t' k => XS.iconst X109.here hx rfl (hb hby own_dI_67) k) ?_
  refine own_go (mkF m 69 #[rv t, rv w, jv y, .second, iv (6 : Int32), iv (6 : Int32)] [(.int (5 : Int32)), (.ref b4)]) (fun t' k => XS.isub X109.here hx rfl (hb hby own_dI_68) rfl k) ?_
  refine own_go (mkF m 70 #[rv t, rv w, jv y, .second, iv (6 : Int32), iv (6 : Int32)] [(.int (1 : Int32)), (.int (5 : Int32)), (.ref b4)]) (fun t' k => XS.iconst X109.here hx rfl (hb hby own_dI_69) k) ?_
  refine X109.stZo hx hZ e109 A_b4 g_b4 5 (by decide) (by decide) ⟨_, rfl⟩ (hb hby own_dI_70) ?_
  intro T110 h110 X110 e110 W110 A110
  replace A_b4 := A110
  replace E_t := E_t.wr W110
  replace A_w := A_w.other W110 (Nat.ne_of_lt lt_w_b4)
  replace F_climbsBetweenRebases := F_climbsBetweenRebases.other W110 (Or.inl (Nat.ne_of_lt lt_t_b4))
  replace F_weights := F_weights.other W110 (Or.inl (Nat.ne_of_lt lt_t_b4))
  replace F_present := F_present.other W110 (Or.inl (Nat.ne_of_lt lt_t_b4))
  replace F_sums := F_sums.other W110 (Or.inl (Nat.ne_of_lt lt_t_b4))
  replace F_counts := F_counts.other W110 (Or.inl (Nat.ne_of_lt lt_t_b4))
  replace F_top := F_top.other W110 (Or.inl (Nat.ne_of_lt lt_t_b4))
  replace F_total := F_total.other W110 (Or.inl (Nat.ne_of_lt lt_t_b4))
  replace F_taking := F_taking.other W110 (Or.inl (Nat.ne_of_lt lt_t_b4))
  replace F_rising := F_rising.other W110 (Or.inl (Nat.ne_of_lt lt_t_b4))
  replace F_risingCount := F_risingCount.other W110 (Or.inl (Nat.ne_of_lt lt_t_b4))
  replace A_b6 := A_b6.other W110 (Ne.symm (Nat.ne_of_lt lt_b4_b6))
  replace A_b8 := A_b8.other W110 (Ne.symm (Nat.ne_of_lt lt_b4_b8))
  replace hn := Nat.le_trans hn (Keep.of_wr W110).1
  clear W110 X109 e109
  refine own_go (mkF m 72 #[rv t, rv w, jv y, .second, iv (6 : Int32), iv (6 : Int32)] [(.ref t)]) (fun t' k => XS.aloadN X110.here hx rfl (hb hby own_dI_71) rfl rfl  k) ?_
  refine X110.getF hx hZ hown (hw _ (List.mem_of_getElem? (i := 18) rfl)) e110 F_sums (hb hby own_dI_72) ?_
  intro T111 X111 e111
  refine own_go (mkF m 77 #[rv t, rv w, jv y, .second, iv (6 : Int32), iv (6 : Int32)] [(.int (6 : Int32)), (.ref b6)]) (fun t' k => XS.iload X111.here hx rfl (hb hby own_dI_75) rfl  k) ?_
  refine own_go (mkF m 78 #[rv t, rv w, jv y, .second, iv (6 : Int32), iv (6 : Int32)] [(.int (6 : Int32)), (.ref b6), (.int (6 : Int32)), (.ref b6)]) (fun t' k => Jvm.Free.XT.dup2 X111.here hx rfl (hb hby own_dI_77) rfl rfl rfl k) ?_
  refine X111.ldJo hx hZ e111 A_b6 6 (by decide) (by decide) (hb hby own_dI_78) ?_
  rintro _ ⟨y112, rfl⟩
  refine own_go (mkF m 80 #[rv t, rv w, jv y, .second, iv (6 : Int32), iv (6 : Int32)] [(.ref w), (.long y112), (.int (6 : Int32)), (.ref b6)]) (fun t' k => XS.aloadN X111.here hx rfl (hb hby own_dI_79) rfl rfl  k) ?_
  refine own_go (mkF m 82 #[rv t, rv w, jv y, .second, iv (6 : Int32), iv (6 : Int32)] [(.int (6 : Int32)), (.ref w), (.long y112), (.int (6 : Int32)), (.ref b6)]) (fun t' k => XS.iload X111.here hx rfl (hb hby own_dI_80) rfl  k) ?_
  refine own_go (mkF m 83 #[rv t, rv w, jv y, .second, iv (6 : Int32), iv (6 : Int32)] [(.int (1 : Int32)), (.int (6 : Int32)), (.ref w), (.long y112), (.int (6 : Int32)), (.ref b6)]) (fun t' k => XS.iconst X111.here hx rfl (hb hby own_dI_82) k) ?_
  refine own_go (mkF m 84 #[rv t, rv w, jv y, .second, iv (6 : Int32), iv (6 : Int32)] [(.int (5 : Int32)), (.ref w), (.long y112), (.int (6 : Int32)), (.ref b6)]) (fun t' k => XS.isub X111.here hx rfl (hb hby own_dI_83) rfl k) ?_
  refine X111.ldJo hx hZ e111 A_w 5 (by decide) (by decide) (hb hby own_dI_84) ?_
  rintro _ ⟨y113, rfl⟩
  refine own_go (mkF m 86 #[rv t, rv w, jv y, .second, iv (6 : Int32), iv (6 : Int32)] [(.long (y112 + y113)), (.int (6 : Int32)), (.ref b6)]) (fun t' k => XS.ladd X111.here hx rfl (hb hby own_dI_85) rfl k) ?_
  refine X111.stJo hx hZ e111 A_b6 g_b6 6 (by decide) (by decide) ⟨_, rfl⟩ (hb hby own_dI_86) ?_
  intro T114 h114 X114 e114 W114 A114
  replace A_b6 := A114
  replace E_t := E_t.wr W114
  replace A_w := A_w.other W114 (Nat.ne_of_lt lt_w_b6)
  replace F_climbsBetweenRebases := F_climbsBetweenRebases.other W114 (Or.inl (Nat.ne_of_lt lt_t_b6))
  replace F_weights := F_weights.other W114 (Or.inl (Nat.ne_of_lt lt_t_b6))
  replace F_present := F_present.other W114 (Or.inl (Nat.ne_of_lt lt_t_b6))
  replace F_sums := F_sums.other W114 (Or.inl (Nat.ne_of_lt lt_t_b6))
  replace F_counts := F_counts.other W114 (Or.inl (Nat.ne_of_lt lt_t_b6))
  replace F_top := F_top.other W114 (Or.inl (Nat.ne_of_lt lt_t_b6))
  replace F_total := F_total.other W114 (Or.inl (Nat.ne_of_lt lt_t_b6))
  replace F_taking := F_taking.other W114 (Or.inl (Nat.ne_of_lt lt_t_b6))
  replace F_rising := F_rising.other W114 (Or.inl (Nat.ne_of_lt lt_t_b6))
  replace F_risingCount := F_risingCount.other W114 (Or.inl (Nat.ne_of_lt lt_t_b6))
  replace A_b4 := A_b4.other W114 (Nat.ne_of_lt lt_b4_b6)
  replace A_b8 := A_b8.other W114 (Ne.symm (Nat.ne_of_lt lt_b6_b8))
  replace hn := Nat.le_trans hn (Keep.of_wr W114).1
  clear W114 X111 e111
  refine own_go (mkF m 88 #[rv t, rv w, jv y, .second, iv (6 : Int32), iv (6 : Int32)] [(.ref t)]) (fun t' k => XS.aloadN X114.here hx rfl (hb hby own_dI_87) rfl rfl  k) ?_
  refine X114.getF hx hZ hown (hw _ (List.mem_of_getElem? (i := 21) rfl)) e114 F_counts (hb hby own_dI_88) ?_
  intro T115 X115 e115
  refine own_go (mkF m 93 #[rv t, rv w, jv y, .second, iv (6 : Int32), iv (6 : Int32)] [(.int (6 : Int32)), (.ref b8)]) (fun t' k => XS.iload X115.here hx rfl (hb hby own_dI_91) rfl  k) ?_
  refine own_go (mkF m 94 #[rv t, rv w, jv y, .second, iv (6 : Int32), iv (6 : Int32)] [(.int (6 : Int32)), (.ref b8), (.int (6 : Int32)), (.ref b8)]) (fun t' k => Jvm.Free.XT.dup2 X115.here hx rfl (hb hby own_dI_93) rfl rfl rfl k) ?_
  refine X115.ldI hx hZ e115 A_b8 (v := (.int (1 : Int32))) 6 (by decide) rfl (hb hby own_dI_94) ?_
  refine own_go (mkF m 96 #[rv t, rv w, jv y, .second, iv (6 : Int32), iv (6 : Int32)] [(.int (1 : Int32)), (.int (1 : Int32)), (.int (6 : Int32)), (.ref b8)]) (fun t' k => XS.iconst X115.here hx rfl (hb hby own_dI_95) k) ?_
  refine own_go (mkF m 97 #[rv t, rv w, jv y, .second, iv (6 : Int32), iv (6 : Int32)] [(.int (2 : Int32)), (.int (6 : Int32)), (.ref b8)]) (fun t' k => XS.iadd X115.here hx rfl (hb hby own_dI_96) rfl k) ?_
  refine X115.stI hx hZ e115 A_b8 g_b8 6 (by decide) (Nat.le_of_ble_eq_true rfl) (hb hby own_dI_97) ?_
  intro T116 h116 X116 e116 W116 A116
  replace A_b8 : own_A Z h116 .int b8 [(.int (0 : Int32)), (.int (1 : Int32)), (.int (2 : Int32)), (.int (1 : Int32)), (.int (4 : Int32)), (.int (1 : Int32)), (.int (2 : Int32))] := A116
  clear A116
  replace E_t := E_t.wr W116
  replace A_w := A_w.other W116 (Nat.ne_of_lt lt_w_b8)
  replace F_climbsBetweenRebases := F_climbsBetweenRebases.other W116 (Or.inl (Nat.ne_of_lt lt_t_b8))
  replace F_weights := F_weights.other W116 (Or.inl (Nat.ne_of_lt lt_t_b8))
  replace F_present := F_present.other W116 (Or.inl (Nat.ne_of_lt lt_t_b8))
  replace F_sums := F_sums.other W116 (Or.inl (Nat.ne_of_lt lt_t_b8))
  replace F_counts := F_counts.other W116 (Or.inl (Nat.ne_of_lt lt_t_b8))
  replace F_top := F_top.other W116 (Or.inl (Nat.ne_of_lt lt_t_b8))
  replace F_total := F_total.other W116 (Or.inl (Nat.ne_of_lt lt_t_b8))
  replace F_taking := F_taking.other W116 (Or.inl (Nat.ne_of_lt lt_t_b8))
  replace F_rising := F_rising.other W116 (Or.inl (Nat.ne_of_lt lt_t_b8))
  replace F_risingCount := F_risingCount.other W116 (Or.inl (Nat.ne_of_lt lt_t_b8))
  replace A_b4 := A_b4.other W116 (Nat.ne_of_lt lt_b4_b8)
  replace A_b6 := A_b6.other W116 (Nat.ne_of_lt lt_b6_b8)
  replace hn := Nat.le_trans hn (Keep.of_wr W116).1
  clear W116 X115 e115
  refine own_go (mkF m 99 #[rv t, rv w, jv y, .second, iv (6 : Int32), iv (6 : Int32)] [(.ref t)]) (fun t' k => XS.aloadN X116.here hx rfl (hb hby own_dI_98) rfl rfl  k) ?_
  refine own_go (mkF m 100 #[rv t, rv w, jv y, .second, iv (6 : Int32), iv (6 : Int32)] [(.ref t), (.ref t)]) (fun t' k => XS.dup X116.here hx rfl (hb hby own_dI_99) rfl rfl k) ?_
  refine X116.getF hx hZ hown (hw _ (List.mem_of_getElem? (i := 34) rfl)) e116 F_total (hb hby own_dI_100) ?_
  intro T117 X117 e117
  refine own_go (mkF m 104 #[rv t, rv w, jv y, .second, iv (6 : Int32), iv (6 : Int32)] [(.ref w), (.long ug98), (.ref t)]) (fun t' k => XS.aloadN X117.here hx rfl (hb hby own_dI_103) rfl rfl  k) ?_
  refine own_go (mkF m 106 #[rv t, rv w, jv y, .second, iv (6 : Int32), iv (6 : Int32)] [(.int (6 : Int32)), (.ref w), (.long ug98), (.ref t)]) (fun t' k => XS.iload X117.here hx rfl (hb hby own_dI_104) rfl  k) ?_
  refine own_go (mkF m 107 #[rv t, rv w, jv y, .second, iv (6 : Int32), iv (6 : Int32)] [(.int (1 : Int32)), (.int (6 : Int32)), (.ref w), (.long ug98), (.ref t)]) (fun t' k => XS.iconst X117.here hx rfl (hb hby own_dI_106) k) ?_
  refine own_go (mkF m 108 #[rv t, rv w, jv y, .second, iv (6 : Int32), iv (6 : Int32)] [(.int (5 : Int32)), (.ref w), (.long ug98), (.ref t)]) (fun t' k => XS.isub X117.here hx rfl (hb hby own_dI_107) rfl k) ?_
  refine X117.ldJo hx hZ e117 A_w 5 (by decide) (by decide) (hb hby own_dI_108) ?_
  rintro _ ⟨y118, rfl⟩
  refine own_go (mkF m 110 #[rv t, rv w, jv y, .second, iv (6 : Int32), iv (6 : Int32)] [(.long (ug98 + y118)), (.ref t)]) (fun t' k => XS.ladd X117.here hx rfl (hb hby own_dI_109) rfl k) ?_
  refine X117.putF hx hZ hown (hw _ (List.mem_of_getElem? (i := 34) rfl)) e117 F_total E_t g_t (Or.inl (hw _ (List.mem_of_getElem? (i := 35) rfl))) (hw _ (List.mem_of_getElem? (i := 2) rfl)) (ty := .long) (by decide) rfl rfl (hb hby own_dI_110) ?_
  intro T119 h119 X119 e119 W119
  replace E_t := E_t.wr W119
  replace A_w := A_w.other W119 (Ne.symm ne_t_w)
  replace F_climbsBetweenRebases := F_climbsBetweenRebases.other W119 (Or.inr (own_sn_WeightTree_climbsBetweenRebases_total hw))
  replace F_weights := F_weights.other W119 (Or.inr (own_sn_WeightTree_weights_total hw))
  replace F_present := F_present.other W119 (Or.inr (own_sn_WeightTree_present_total hw))
  replace F_sums := F_sums.other W119 (Or.inr (own_sn_WeightTree_sums_total hw))
  replace F_counts := F_counts.other W119 (Or.inr (own_sn_WeightTree_counts_total hw))
  replace F_top := F_top.other W119 (Or.inr (own_sn_WeightTree_top_total hw))
  replace F_total := F_total.same W119
  replace F_taking := F_taking.other W119 (Or.inr (own_sn_WeightTree_taking_total hw))
  replace F_rising := F_rising.other W119 (Or.inr (own_sn_WeightTree_rising_total hw))
  replace F_risingCount := F_risingCount.other W119 (Or.inr (own_sn_WeightTree_risingCount_total hw))
  replace A_b4 := A_b4.other W119 (Ne.symm (Nat.ne_of_lt lt_t_b4))
  replace A_b6 := A_b6.other W119 (Ne.symm (Nat.ne_of_lt lt_t_b6))
  replace A_b8 := A_b8.other W119 (Ne.symm (Nat.ne_of_lt lt_t_b8))
  replace hn := Nat.le_trans hn (Keep.of_wr W119).1
  clear W119 X117 e117
  generalize (ug98 + y118) = ug119 at F_total
  refine own_go (mkF m 114 #[rv t, rv w, jv y, .second, iv (6 : Int32), iv (6 : Int32)] [(.ref t)]) (fun t' k => XS.aloadN X119.here hx rfl (hb hby own_dI_113) rfl rfl  k) ?_
  refine own_go (mkF m 115 #[rv t, rv w, jv y, .second, iv (6 : Int32), iv (6 : Int32)] [(.ref t), (.ref t)]) (fun t' k => XS.dup X119.here hx rfl (hb hby own_dI_114) rfl rfl k) ?_
  refine X119.getF hx hZ hown (hw _ (List.mem_of_getElem? (i := 36) rfl)) e119 F_taking (hb hby own_dI_115) ?_
  intro T120 X120 e120
  refine own_go (mkF m 119 #[rv t, rv w, jv y, .second, iv (6 : Int32), iv (6 : Int32)] [(.int (1 : Int32)), (.int (5 : Int32)), (.ref t)]) (fun t' k => XS.iconst X120.here hx rfl (hb hby own_dI_118) k) ?_
  refine own_go (mkF m 120 #[rv t, rv w, jv y, .second, iv (6 : Int32), iv (6 : Int32)] [(.int (6 : Int32)), (.ref t)]) (fun t' k => XS.iadd X120.here hx rfl (hb hby own_dI_119) rfl k) ?_
  refine X120.putF hx hZ hown (hw _ (List.mem_of_getElem? (i := 36) rfl)) e120 F_taking E_t g_t (Or.inl (hw _ (List.mem_of_getElem? (i := 37) rfl))) (hw _ (List.mem_of_getElem? (i := 2) rfl)) (ty := .int) (by decide) rfl rfl (hb hby own_dI_120) ?_
  intro T121 h121 X121 e121 W121
  replace E_t := E_t.wr W121
  replace A_w := A_w.other W121 (Ne.symm ne_t_w)
  replace F_climbsBetweenRebases := F_climbsBetweenRebases.other W121 (Or.inr (own_sn_WeightTree_climbsBetweenRebases_taking hw))
  replace F_weights := F_weights.other W121 (Or.inr (own_sn_WeightTree_weights_taking hw))
  replace F_present := F_present.other W121 (Or.inr (own_sn_WeightTree_present_taking hw))
  replace F_sums := F_sums.other W121 (Or.inr (own_sn_WeightTree_sums_taking hw))
  replace F_counts := F_counts.other W121 (Or.inr (own_sn_WeightTree_counts_taking hw))
  replace F_top := F_top.other W121 (Or.inr (own_sn_WeightTree_top_taking hw))
  replace F_total := F_total.other W121 (Or.inr (own_sn_WeightTree_total_taking hw))
  replace F_taking := F_taking.same W121
  replace F_rising := F_rising.other W121 (Or.inr (own_sn_WeightTree_rising_taking hw))
  replace F_risingCount := F_risingCount.other W121 (Or.inr (own_sn_WeightTree_risingCount_taking hw))
  replace A_b4 := A_b4.other W121 (Ne.symm (Nat.ne_of_lt lt_t_b4))
  replace A_b6 := A_b6.other W121 (Ne.symm (Nat.ne_of_lt lt_t_b6))
  replace A_b8 := A_b8.other W121 (Ne.symm (Nat.ne_of_lt lt_t_b8))
  replace hn := Nat.le_trans hn (Keep.of_wr W121).1
  clear W121 X120 e120
  refine own_go (mkF m 125 #[rv t, rv w, jv y, .second, iv (6 : Int32), iv (6 : Int32)] [(.int (6 : Int32))]) (fun t' k => XS.iload X121.here hx rfl (hb hby own_dI_123) rfl  k) ?_
  refine own_go (mkF m 127 #[rv t, rv w, jv y, .second, iv (6 : Int32), iv (6 : Int32)] [(.int (6 : Int32)), (.int (6 : Int32))]) (fun t' k => XS.iload X121.here hx rfl (hb hby own_dI_125) rfl  k) ?_
  refine own_go (mkF m 129 #[rv t, rv w, jv y, .second, iv (6 : Int32), iv (6 : Int32)] [(.int (6 : Int32)), (.int (6 : Int32)), (.int (6 : Int32))]) (fun t' k => XS.iload X121.here hx rfl (hb hby own_dI_127) rfl  k) ?_
  refine own_go (mkF m 130 #[rv t, rv w, jv y, .second, iv (6 : Int32), iv (6 : Int32)] [(.int (-6 : Int32)), (.int (6 : Int32)), (.int (6 : Int32))]) (fun t' k => XS.ineg X121.here hx rfl (hb hby own_dI_129) rfl k) ?_
  refine own_go (mkF m 131 #[rv t, rv w, jv y, .second, iv (6 : Int32), iv (6 : Int32)] [(.int (2 : Int32)), (.int (6 : Int32))]) (fun t' k => XS.iand X121.here hx rfl (hb hby own_dI_130) rfl k) ?_
  refine own_go (mkF m 132 #[rv t, rv w, jv y, .second, iv (6 : Int32), iv (6 : Int32)] [(.int (8 : Int32))]) (fun t' k => XS.iadd X121.here hx rfl (hb hby own_dI_131) rfl k) ?_
  refine own_go (mkF m 134 #[rv t, rv w, jv y, .second, iv (6 : Int32), iv (8 : Int32)] []) (fun t' k => XS.istore X121.here hx rfl (hb hby own_dI_132) rfl (l' := #[rv t, rv w, jv y, .second, iv (6 : Int32), iv (8 : Int32)]) rfl k) ?_
  refine own_go (mkF m 136 #[rv t, rv w, jv y, .second, iv (6 : Int32), iv (8 : Int32)] [(.int (8 : Int32))]) (fun t' k => XS.iload X121.here hx rfl (hb hby own_dI_134) rfl  k) ?_
  refine own_go (mkF m 137 #[rv t, rv w, jv y, .second, iv (6 : Int32), iv (8 : Int32)] [(.ref w), (.int (8 : Int32))]) (fun t' k => XS.aloadN X121.here hx rfl (hb hby own_dI_136) rfl rfl  k) ?_
  refine X121.aleno hx hZ e121 A_w (hb hby own_dI_137) ?_
  show own_G p e below s _ _ _ T121 (mkF m 138 #[rv t, rv w, jv y, .second, iv (6 : Int32), iv (8 : Int32)] [(.int (6 : Int32)), (.int (8 : Int32))])
  refine own_go (mkF m 175 #[rv t, rv w, jv y, .second, iv (6 : Int32), iv (8 : Int32)] []) (fun t' k => XS.icmpYes X121.here hx rfl (pc0 := 138) (pc' := 175) rfl (hb hby own_dI_138) rfl (tlt (by decide)).2.2.1 (by decide) (by decide) k) ?_
  refine own_go (mkF m 178 #[rv t, rv w, jv y, .second, iv (7 : Int32), iv (8 : Int32)] []) (fun t' k => XS.iinc X121.here hx rfl (hb hby own_dI_175) rfl (l' := #[rv t, rv w, jv y, .second, iv (7 : Int32), iv (8 : Int32)]) rfl k) ?_
  refine own_go (mkF m 54 #[rv t, rv w, jv y, .second, iv (7 : Int32), iv (8 : Int32)] []) (fun t' k => XS.goto X121.here hx rfl (pc0 := 178) (pc' := 54) rfl (hb hby own_dI_178) (by decide) (by decide) k) ?_
  refine own_go (mkF m 56 #[rv t, rv w, jv y, .second, iv (7 : Int32), iv (8 : Int32)] [(.int (7 : Int32))]) (fun t' k => XS.iload X121.here hx rfl (hb hby own_dI_54) rfl  k) ?_
  refine own_go (mkF m 57 #[rv t, rv w, jv y, .second, iv (7 : Int32), iv (8 : Int32)] [(.ref w), (.int (7 : Int32))]) (fun t' k => XS.aloadN X121.here hx rfl (hb hby own_dI_56) rfl rfl  k) ?_
  refine X121.aleno hx hZ e121 A_w (hb hby own_dI_57) ?_
  show own_G p e below s _ _ _ T121 (mkF m 58 #[rv t, rv w, jv y, .second, iv (7 : Int32), iv (8 : Int32)] [(.int (6 : Int32)), (.int (7 : Int32))])
  refine own_go (mkF m 181 #[rv t, rv w, jv y, .second, iv (7 : Int32), iv (8 : Int32)] []) (fun t' k => XS.icmpYes X121.here hx rfl (pc0 := 58) (pc' := 181) rfl (hb hby own_dI_58) rfl (tlt (by decide)).2.2.1 (by decide) (by decide) k) ?_
  refine X121.retV hx hlk hret (hb hby own_dI_181) ?_ (by decide) (by decide)
  rw [e121]
  exact ⟨rfl, b4, b6, b8, ⟨hn, g_t, g_b4, g_b6, g_b8⟩, ⟨ne_t_w, (Nat.ne_of_lt lt_t_b4), (Nat.ne_of_lt lt_t_b6), (Nat.ne_of_lt lt_t_b8), (Nat.ne_of_lt lt_w_b4), (Nat.ne_of_lt lt_w_b6), (Nat.ne_of_lt lt_w_b8), (Nat.ne_of_lt lt_b4_b6), (Nat.ne_of_lt lt_b4_b8), (Nat.ne_of_lt lt_b6_b8)⟩, ⟨E_t, A_w, A_b4, A_b6, A_b8⟩, ⟨F_weights, F_present, F_sums, F_counts, F_top, F_rising⟩, _, _, _, F_total, F_taking, F_risingCount⟩


def own_bi (b : Bool) : Int32 := if b then 1 else 0
def own_cs (b0 b1 b2 b3 b4 b5 : Bool) : List Value := [.int 0, .int (own_bi b0), .int (own_bi b0 + own_bi b1), .int (own_bi b2), .int (own_bi b0 + own_bi b1 + own_bi b2 + own_bi b3), .int (own_bi b4), .int (own_bi b4 + own_bi b5)]
def own_e (p : Int32) (k c : Int64) (i ex : Int32) : Int32 := if p = (0 : Int32) then ex else (if k = c then i else ex)
theorem own_cs0 : own_cs true true true true true true = [.int (0 : Int32), .int (1 : Int32), .int (2 : Int32), .int (1 : Int32), .int (4 : Int32), .int (1 : Int32), .int (2 : Int32)] := rfl
def own_c (n : Nat) (b0 b1 b2 b3 b4 b5 : Bool) : Int64 := match n with
  | 0 => 0
  | 1 => 0 + (own_bi b0).toInt64
  | 2 => 0 + (own_bi b0).toInt64 + (own_bi b1).toInt64
  | 3 => 0 + (own_bi b0).toInt64 + (own_bi b1).toInt64 + (own_bi b2).toInt64
  | 4 => 0 + (own_bi b0).toInt64 + (own_bi b1).toInt64 + (own_bi b2).toInt64 + (own_bi b3).toInt64
  | 5 => 0 + (own_bi b0).toInt64 + (own_bi b1).toInt64 + (own_bi b2).toInt64 + (own_bi b3).toInt64 + (own_bi b4).toInt64
  | _ => 0 + (own_bi b0).toInt64 + (own_bi b1).toInt64 + (own_bi b2).toInt64 + (own_bi b3).toInt64 + (own_bi b4).toInt64 + (own_bi b5).toInt64
theorem own_all : ∀ b0 b1 b2 b3 b4 b5 : Bool, ∀ k : Fin 6, ((k.val : Int) < (own_c 6 b0 b1 b2 b3 b4 b5).toInt) →
    own_tp (Int64.ofNat k.val) 0 (own_bi b0) (own_bi b0 + own_bi b1) (own_bi b2) (own_bi b0 + own_bi b1 + own_bi b2 + own_bi b3) (own_bi b4) (own_bi b4 + own_bi b5) =
    own_e (own_bi b5) (Int64.ofNat k.val) (own_c 5 b0 b1 b2 b3 b4 b5) 5 (own_e (own_bi b4) (Int64.ofNat k.val) (own_c 4 b0 b1 b2 b3 b4 b5) 4 (own_e (own_bi b3) (Int64.ofNat k.val) (own_c 3 b0 b1 b2 b3 b4 b5) 3 (own_e (own_bi b2) (Int64.ofNat k.val) (own_c 2 b0 b1 b2 b3 b4 b5) 2 (own_e (own_bi b1) (Int64.ofNat k.val) (own_c 1 b0 b1 b2 b3 b4 b5) 1 (own_e (own_bi b0) (Int64.ofNat k.val) (own_c 0 b0 b1 b2 b3 b4 b5) 0 (-1)))))) := by decide +kernel
theorem own_c6 : ∀ b0 b1 b2 b3 b4 b5 : Bool, (own_c 6 b0 b1 b2 b3 b4 b5).toInt ≤ 6 ∧ 0 ≤ (own_c 6 b0 b1 b2 b3 b4 b5).toInt := by decide +kernel
theorem own_kk {x : Int64} {b0 b1 b2 b3 b4 b5 : Bool} (h : ¬ own_c 6 b0 b1 b2 b3 b4 b5 = 0) : ∃ k : Fin 6, ((x &&& (9223372036854775807 : Int64)) - ((x &&& (9223372036854775807 : Int64)) / own_c 6 b0 b1 b2 b3 b4 b5) * own_c 6 b0 b1 b2 b3 b4 b5) = Int64.ofNat k.val ∧ (k.val : Int) < (own_c 6 b0 b1 b2 b3 b4 b5).toInt := by
  have e0 : (0 : Int64).toInt = 0 := rfl
  obtain ⟨c1, c2⟩ := own_c6 b0 b1 b2 b3 b4 b5
  generalize own_c 6 b0 b1 b2 b3 b4 b5 = cc at *
  have c3 : cc.toInt ≠ 0 := fun q => h (Int64.toInt_inj.mp (q.trans e0.symm))
  have k2 := Jvm.Kit.i64_mask x 9223372036854775807 (k := 63) (by decide) (by decide)
  generalize (x &&& (9223372036854775807 : Int64)) = y at *
  have k5 := Jvm.Kit.i64_rem_nonneg (x := y) (y := cc) (by omega)
  generalize (y - (y / cc) * cc) = r at *
  have k6 : 0 ≤ r.toInt := by rw [k5]; exact Int.emod_nonneg _ c3
  have k7 : r.toInt < cc.toInt := by rw [k5]; exact Int.emod_lt_of_pos _ (by omega)
  refine ⟨⟨r.toInt.toNat, by omega⟩, ?_, ?_⟩
  · rw [← Int64.toInt_inj, Int64.toInt_ofNat_of_lt (by show r.toInt.toNat < 2 ^ 63; omega)]; show r.toInt = ((r.toInt.toNat : Nat) : Int); omega
  · show ((r.toInt.toNat : Nat) : Int) < cc.toInt; omega

theorem own_pn_own_rm0 : plainFor x = true := plainFor_of_name (show plainName "com/example/load_across_peers/loadacrosspeers/internal/pick/WeightTreeTakingPartAtPinLaw" = true by first | (simp [plainName, overriddenIn]; done) | decide +kernel)
set_option maxRecDepth 65536 in
set_option maxHeartbeats 40000000 in
theorem own_rm0 (l : Launch) (Z : State) (a0 : Array Value) (hw : ∀ d ∈ tables_1, d.before a0 Z = true) (ws : List Jvm.Cond) (h0 : Heap) (x0 : Int32) (x1 : Int64) (x3 : Int32)  :
    own_C l Z x code maxLocals ret ws room_1 #[(.int x0), (.long x1), (.int x3)] h0 (own_Q h0.size (fun v h => v = some (.int 1))) := by
  refine own_met own_pn_own_rm0 #[iv x0, jv x1, .second, iv x3, .unset, .unset, .unset, .unset, .unset, .unset, .unset, .unset, .unset, .unset, .unset, .unset, .unset, .unset, .unset, .unset, .unset, .unset, .unset, .unset, .unset, .unset, .unset, .unset, .unset] (fun m => by first | (simp [entryFrame, mkF, argsToLocals, Value.category, maxLocals]; done) | rfl) ?_
  intro p e s m below meth c s₁ hx hby hml hown hret hlk hZ hnm X0 e0
  replace hml : c.maxLocals = 29 := hml
  replace X0 := own_S.of X0 (h0.size)
  have hn : h0.size ≤ h0.size := Nat.le_refl _
  have Ja : ∀ (p0 : Int32), (∃ b : Bool, p0 = own_bi b) → own_G p e below s (own_Q h0.size (fun v h => v = some (.int 1))) room_1.cells room_1.slots s₁ (mkF m 11 #[iv x0, jv x1, .second, iv x3, .unset, .unset, .unset, .unset, .unset, .unset, .unset, .unset, .unset, .unset, .unset, .unset, .unset, .unset, .unset, .unset, .unset, .unset, .unset, .unset, .unset, .unset, .unset, .unset, .unset] [(.int p0)]) := by
    intro p0 hJa
    obtain ⟨bt0, rfl⟩ := hJa
    refine own_go (mkF m 13 #[iv x0, jv x1, .second, iv x3, iv (own_bi bt0), .unset, .unset, .unset, .unset, .unset, .unset, .unset, .unset, .unset, .unset, .unset, .unset, .unset, .unset, .unset, .unset, .unset, .unset, .unset, .unset, .unset, .unset, .unset, .unset] []) (fun t' k => XS.istore X0.here hx rfl (hb hby at_11) rfl (l' := #[iv x0, jv x1, .second, iv x3, iv (own_bi bt0), .unset, .unset, .unset, .unset, .unset, .unset, .unset, .unset, .unset, .unset, .unset, .unset, .unset, .unset, .unset, .unset, .unset, .unset, .unset, .unset, .unset, .unset, .unset, .unset]) rfl k) ?_
    have Jb : ∀ (p1 : Int32), (∃ b : Bool, p1 = own_bi b) → own_G p e below s (own_Q h0.size (fun v h => v = some (.int 1))) room_1.cells room_1.slots s₁ (mkF m 24 #[iv x0, jv x1, .second, iv x3, iv (own_bi bt0), .unset, .unset, .unset, .unset, .unset, .unset, .unset, .unset, .unset, .unset, .unset, .unset, .unset, .unset, .unset, .unset, .unset, .unset, .unset, .unset, .unset, .unset, .unset, .unset] [(.int p1)]) := by
      intro p1 hJb
      obtain ⟨bt1, rfl⟩ := hJb
      refine own_go (mkF m 26 #[iv x0, jv x1, .second, iv x3, iv (own_bi bt0), iv (own_bi bt1), .unset, .unset, .unset, .unset, .unset, .unset, .unset, .unset, .unset, .unset, .unset, .unset, .unset, .unset, .unset, .unset, .unset, .unset, .unset, .unset, .unset, .unset, .unset] []) (fun t' k => XS.istore X0.here hx rfl (hb hby at_24) rfl (l' := #[iv x0, jv x1, .second, iv x3, iv (own_bi bt0), iv (own_bi bt1), .unset, .unset, .unset, .unset, .unset, .unset, .unset, .unset, .unset, .unset, .unset, .unset, .unset, .unset, .unset, .unset, .unset, .unset, .unset, .unset, .unset, .unset, .unset]) rfl k) ?_
      have Jc : ∀ (p2 : Int32), (∃ b : Bool, p2 = own_bi b) → own_G p e below s (own_Q h0.size (fun v h => v = some (.int 1))) room_1.cells room_1.slots s₁ (mkF m 37 #[iv x0, jv x1, .second, iv x3, iv (own_bi bt0), iv (own_bi bt1), .unset, .unset, .unset, .unset, .unset, .unset, .unset, .unset, .unset, .unset, .unset, .unset, .unset, .unset, .unset, .unset, .unset, .unset, .unset, .unset, .unset, .unset, .unset] [(.int p2)]) := by
        intro p2 hJc
        obtain ⟨bt2, rfl⟩ := hJc
        refine own_go (mkF m 39 #[iv x0, jv x1, .second, iv x3, iv (own_bi bt0), iv (own_bi bt1), iv (own_bi bt2), .unset, .unset, .unset, .unset, .unset, .unset, .unset, .unset, .unset, .unset, .unset, .unset, .unset, .unset, .unset, .unset, .unset, .unset, .unset, .unset, .unset, .unset] []) (fun t' k => XS.istore X0.here hx rfl (hb hby at_37) rfl (l' := #[iv x0, jv x1, .second, iv x3, iv (own_bi bt0), iv (own_bi bt1), iv (own_bi bt2), .unset, .unset, .unset, .unset, .unset, .unset, .unset, .unset, .unset, .unset, .unset, .unset, .unset, .unset, .unset, .unset, .unset, .unset, .unset, .unset, .unset, .unset]) rfl k) ?_
        have Jd : ∀ (p3 : Int32), (∃ b : Bool, p3 = own_bi b) → own_G p e below s (own_Q h0.size (fun v h => v = some (.int 1))) room_1.cells room_1.slots s₁ (mkF m 51 #[iv x0, jv x1, .second, iv x3, iv (own_bi bt0), iv (own_bi bt1), iv (own_bi bt2), .unset, .unset, .unset, .unset, .unset, .unset, .unset, .unset, .unset, .unset, .unset, .unset, .unset, .unset, .unset, .unset, .unset, .unset, .unset, .unset, .unset, .unset] [(.int p3)]) := by
          intro p3 hJd
          obtain ⟨bt3, rfl⟩ := hJd
          refine own_go (mkF m 53 #[iv x0, jv x1, .second, iv x3, iv (own_bi bt0), iv (own_bi bt1), iv (own_bi bt2), iv (own_bi bt3), .unset, .unset, .unset, .unset, .unset, .unset, .unset, .unset, .unset, .unset, .unset, .unset, .unset, .unset, .unset, .unset, .unset, .unset, .unset, .unset, .unset] []) (fun t' k => XS.istore X0.here hx rfl (hb hby at_51) rfl (l' := #[iv x0, jv x1, .second, iv x3, iv (own_bi bt0), iv (own_bi bt1), iv (own_bi bt2), iv (own_bi bt3), .unset, .unset, .unset, .unset, .unset, .unset, .unset, .unset, .unset, .unset, .unset, .unset, .unset, .unset, .unset, .unset, .unset, .unset, .unset, .unset, .unset]) rfl k) ?_
          have Je : ∀ (p4 : Int32), (∃ b : Bool, p4 = own_bi b) → own_G p e below s (own_Q h0.size (fun v h => v = some (.int 1))) room_1.cells room_1.slots s₁ (mkF m 65 #[iv x0, jv x1, .second, iv x3, iv (own_bi bt0), iv (own_bi bt1), iv (own_bi bt2), iv (own_bi bt3), .unset, .unset, .unset, .unset, .unset, .unset, .unset, .unset, .unset, .unset, .unset, .unset, .unset, .unset, .unset, .unset, .unset, .unset, .unset, .unset, .unset] [(.int p4)]) := by
            intro p4 hJe
            obtain ⟨bt4, rfl⟩ := hJe
            refine own_go (mkF m 67 #[iv x0, jv x1, .second, iv x3, iv (own_bi bt0), iv (own_bi bt1), iv (own_bi bt2), iv (own_bi bt3), iv (own_bi bt4), .unset, .unset, .unset, .unset, .unset, .unset, .unset, .unset, .unset, .unset, .unset, .unset, .unset, .unset, .unset, .unset, .unset, .unset, .unset, .unset] []) (fun t' k => XS.istore X0.here hx rfl (hb hby at_65) rfl (l' := #[iv x0, jv x1, .second, iv x3, iv (own_bi bt0), iv (own_bi bt1), iv (own_bi bt2), iv (own_bi bt3), iv (own_bi bt4), .unset, .unset, .unset, .unset, .unset, .unset, .unset, .unset, .unset, .unset, .unset, .unset, .unset, .unset, .unset, .unset, .unset, .unset, .unset, .unset]) rfl k) ?_
            have Jf : ∀ (p5 : Int32), (∃ b : Bool, p5 = own_bi b) → own_G p e below s (own_Q h0.size (fun v h => v = some (.int 1))) room_1.cells room_1.slots s₁ (mkF m 79 #[iv x0, jv x1, .second, iv x3, iv (own_bi bt0), iv (own_bi bt1), iv (own_bi bt2), iv (own_bi bt3), iv (own_bi bt4), .unset, .unset, .unset, .unset, .unset, .unset, .unset, .unset, .unset, .unset, .unset, .unset, .unset, .unset, .unset, .unset, .unset, .unset, .unset, .unset] [(.int p5)]) := by
              intro p5 hJf
              obtain ⟨bt5, rfl⟩ := hJf
              refine own_go (mkF m 81 #[iv x0, jv x1, .second, iv x3, iv (own_bi bt0), iv (own_bi bt1), iv (own_bi bt2), iv (own_bi bt3), iv (own_bi bt4), iv (own_bi bt5), .unset, .unset, .unset, .unset, .unset, .unset, .unset, .unset, .unset, .unset, .unset, .unset, .unset, .unset, .unset, .unset, .unset, .unset, .unset] []) (fun t' k => XS.istore X0.here hx rfl (hb hby at_79) rfl (l' := #[iv x0, jv x1, .second, iv x3, iv (own_bi bt0), iv (own_bi bt1), iv (own_bi bt2), iv (own_bi bt3), iv (own_bi bt4), iv (own_bi bt5), .unset, .unset, .unset, .unset, .unset, .unset, .unset, .unset, .unset, .unset, .unset, .unset, .unset, .unset, .unset, .unset, .unset, .unset, .unset]) rfl k) ?_
              refine own_go (mkF m 83 #[iv x0, jv x1, .second, iv x3, iv (own_bi bt0), iv (own_bi bt1), iv (own_bi bt2), iv (own_bi bt3), iv (own_bi bt4), iv (own_bi bt5), .unset, .unset, .unset, .unset, .unset, .unset, .unset, .unset, .unset, .unset, .unset, .unset, .unset, .unset, .unset, .unset, .unset, .unset, .unset] [(.int (6 : Int32))]) (fun t' k => XS.bipush X0.here hx rfl (hb hby at_81) k) ?_
              refine X0.newP hx hZ (hw _ (List.mem_of_getElem? (i := 0) rfl)) e0 6 (by decide) (hb hby at_83) 6 (by decide) (by decide) (by decide) (by decide) ?_
              intro T1 h1 b1 X1 e1 q1 xt1 A_b1
              have g_b1 : h0.size ≤ b1 := by rw [q1]; exact hn
              replace hn := Nat.le_trans hn xt1.1
              replace A_b1 : own_O Z h1 .long b1 6 own_isJ := own_O.rep A_b1 ⟨_, rfl⟩
              refine own_go (mkF m 87 #[iv x0, jv x1, .second, iv x3, iv (own_bi bt0), iv (own_bi bt1), iv (own_bi bt2), iv (own_bi bt3), iv (own_bi bt4), iv (own_bi bt5), rv b1, .unset, .unset, .unset, .unset, .unset, .unset, .unset, .unset, .unset, .unset, .unset, .unset, .unset, .unset, .unset, .unset, .unset, .unset] []) (fun t' k => XS.astore X1.here hx rfl (hb hby at_85) rfl rfl (l' := #[iv x0, jv x1, .second, iv x3, iv (own_bi bt0), iv (own_bi bt1), iv (own_bi bt2), iv (own_bi bt3), iv (own_bi bt4), iv (own_bi bt5), rv b1, .unset, .unset, .unset, .unset, .unset, .unset, .unset, .unset, .unset, .unset, .unset, .unset, .unset, .unset, .unset, .unset, .unset, .unset]) rfl k) ?_
              refine own_go (mkF m 89 #[iv x0, jv x1, .second, iv x3, iv (own_bi bt0), iv (own_bi bt1), iv (own_bi bt2), iv (own_bi bt3), iv (own_bi bt4), iv (own_bi bt5), rv b1, .unset, .unset, .unset, .unset, .unset, .unset, .unset, .unset, .unset, .unset, .unset, .unset, .unset, .unset, .unset, .unset, .unset, .unset] [(.ref b1)]) (fun t' k => XS.aload X1.here hx rfl (hb hby at_87) rfl rfl  k) ?_
              refine own_go (mkF m 90 #[iv x0, jv x1, .second, iv x3, iv (own_bi bt0), iv (own_bi bt1), iv (own_bi bt2), iv (own_bi bt3), iv (own_bi bt4), iv (own_bi bt5), rv b1, .unset, .unset, .unset, .unset, .unset, .unset, .unset, .unset, .unset, .unset, .unset, .unset, .unset, .unset, .unset, .unset, .unset, .unset] [(.int (0 : Int32)), (.ref b1)]) (fun t' k => XS.iconst X1.here hx rfl (hb hby at_89) k) ?_
              refine own_go (mkF m 91 #[iv x0, jv x1, .second, iv x3, iv (own_bi bt0), iv (own_bi bt1), iv (own_bi bt2), iv (own_bi bt3), iv (own_bi bt4), iv (own_bi bt5), rv b1, .unset, .unset, .unset, .unset, .unset, .unset, .unset, .unset, .unset, .unset, .unset, .unset, .unset, .unset, .unset, .unset, .unset, .unset] [(.int x3), (.int (0 : Int32)), (.ref b1)]) (fun t' k => XS.iloadN X1.here hx rfl (hb hby at_90) rfl  k) ?_
              refine own_go (mkF m 92 #[iv x0, jv x1, .second, iv x3, iv (own_bi bt0), iv (own_bi bt1), iv (own_bi bt2), iv (own_bi bt3), iv (own_bi bt4), iv (own_bi bt5), rv b1, .unset, .unset, .unset, .unset, .unset, .unset, .unset, .unset, .unset, .unset, .unset, .unset, .unset, .unset, .unset, .unset, .unset, .unset] [(.int (3 : Int32)), (.int x3), (.int (0 : Int32)), (.ref b1)]) (fun t' k => XS.iconst X1.here hx rfl (hb hby at_91) k) ?_
              refine own_go (mkF m 93 #[iv x0, jv x1, .second, iv x3, iv (own_bi bt0), iv (own_bi bt1), iv (own_bi bt2), iv (own_bi bt3), iv (own_bi bt4), iv (own_bi bt5), rv b1, .unset, .unset, .unset, .unset, .unset, .unset, .unset, .unset, .unset, .unset, .unset, .unset, .unset, .unset, .unset, .unset, .unset, .unset] [(.int (x3 &&& (3 : Int32))), (.int (0 : Int32)), (.ref b1)]) (fun t' k => XS.iand X1.here hx rfl (hb hby at_92) rfl k) ?_
              refine own_go (mkF m 94 #[iv x0, jv x1, .second, iv x3, iv (own_bi bt0), iv (own_bi bt1), iv (own_bi bt2), iv (own_bi bt3), iv (own_bi bt4), iv (own_bi bt5), rv b1, .unset, .unset, .unset, .unset, .unset, .unset, .unset, .unset, .unset, .unset, .unset, .unset, .unset, .unset, .unset, .unset, .unset, .unset] [(.long ((x3 &&& (3 : Int32)).toInt64)), (.int (0 : Int32)), (.ref b1)]) (fun t' k => XS.i2l X1.here hx rfl (hb hby at_93) rfl k) ?_
              refine X1.stJo hx hZ e1 A_b1 g_b1 0 (by decide) (by decide) ⟨_, rfl⟩ (hb hby at_94) ?_
              intro T2 h2 X2 e2 W2 A2
              replace A_b1 := A2
              replace hn := Nat.le_trans hn (Keep.of_wr W2).1
              refine own_go (mkF m 97 #[iv x0, jv x1, .second, iv x3, iv (own_bi bt0), iv (own_bi bt1), iv (own_bi bt2), iv (own_bi bt3), iv (own_bi bt4), iv (own_bi bt5), rv b1, .unset, .unset, .unset, .unset, .unset, .unset, .unset, .unset, .unset, .unset, .unset, .unset, .unset, .unset, .unset, .unset, .unset, .unset] [(.ref b1)]) (fun t' k => XS.aload X2.here hx rfl (hb hby at_95) rfl rfl  k) ?_
              refine own_go (mkF m 98 #[iv x0, jv x1, .second, iv x3, iv (own_bi bt0), iv (own_bi bt1), iv (own_bi bt2), iv (own_bi bt3), iv (own_bi bt4), iv (own_bi bt5), rv b1, .unset, .unset, .unset, .unset, .unset, .unset, .unset, .unset, .unset, .unset, .unset, .unset, .unset, .unset, .unset, .unset, .unset, .unset] [(.int (1 : Int32)), (.ref b1)]) (fun t' k => XS.iconst X2.here hx rfl (hb hby at_97) k) ?_
              refine own_go (mkF m 99 #[iv x0, jv x1, .second, iv x3, iv (own_bi bt0), iv (own_bi bt1), iv (own_bi bt2), iv (own_bi bt3), iv (own_bi bt4), iv (own_bi bt5), rv b1, .unset, .unset, .unset, .unset, .unset, .unset, .unset, .unset, .unset, .unset, .unset, .unset, .unset, .unset, .unset, .unset, .unset, .unset] [(.int x3), (.int (1 : Int32)), (.ref b1)]) (fun t' k => XS.iloadN X2.here hx rfl (hb hby at_98) rfl  k) ?_
              refine own_go (mkF m 100 #[iv x0, jv x1, .second, iv x3, iv (own_bi bt0), iv (own_bi bt1), iv (own_bi bt2), iv (own_bi bt3), iv (own_bi bt4), iv (own_bi bt5), rv b1, .unset, .unset, .unset, .unset, .unset, .unset, .unset, .unset, .unset, .unset, .unset, .unset, .unset, .unset, .unset, .unset, .unset, .unset] [(.int (2 : Int32)), (.int x3), (.int (1 : Int32)), (.ref b1)]) (fun t' k => XS.iconst X2.here hx rfl (hb hby at_99) k) ?_
              refine own_go (mkF m 101 #[iv x0, jv x1, .second, iv x3, iv (own_bi bt0), iv (own_bi bt1), iv (own_bi bt2), iv (own_bi bt3), iv (own_bi bt4), iv (own_bi bt5), rv b1, .unset, .unset, .unset, .unset, .unset, .unset, .unset, .unset, .unset, .unset, .unset, .unset, .unset, .unset, .unset, .unset, .unset, .unset] [(.int ((x3.toUInt32 >>> ((2 : Int32) &&& 31).toUInt32).toInt32)), (.int (1 : Int32)), (.ref b1)]) (fun t' k => XS.iushr X2.here hx rfl (hb hby at_100) rfl k) ?_
              refine own_go (mkF m 102 #[iv x0, jv x1, .second, iv x3, iv (own_bi bt0), iv (own_bi bt1), iv (own_bi bt2), iv (own_bi bt3), iv (own_bi bt4), iv (own_bi bt5), rv b1, .unset, .unset, .unset, .unset, .unset, .unset, .unset, .unset, .unset, .unset, .unset, .unset, .unset, .unset, .unset, .unset, .unset, .unset] [(.int (3 : Int32)), (.int ((x3.toUInt32 >>> ((2 : Int32) &&& 31).toUInt32).toInt32)), (.int (1 : Int32)), (.ref b1)]) (fun t' k => XS.iconst X2.here hx rfl (hb hby at_101) k) ?_
              refine own_go (mkF m 103 #[iv x0, jv x1, .second, iv x3, iv (own_bi bt0), iv (own_bi bt1), iv (own_bi bt2), iv (own_bi bt3), iv (own_bi bt4), iv (own_bi bt5), rv b1, .unset, .unset, .unset, .unset, .unset, .unset, .unset, .unset, .unset, .unset, .unset, .unset, .unset, .unset, .unset, .unset, .unset, .unset] [(.int (((x3.toUInt32 >>> ((2 : Int32) &&& 31).toUInt32).toInt32) &&& (3 : Int32))), (.int (1 : Int32)), (.ref b1)]) (fun t' k => XS.iand X2.here hx rfl (hb hby at_102) rfl k) ?_
              refine own_go (mkF m 104 #[iv x0, jv x1, .second, iv x3, iv (own_bi bt0), iv (own_bi bt1), iv (own_bi bt2), iv (own_bi bt3), iv (own_bi bt4), iv (own_bi bt5), rv b1, .unset, .unset, .unset, .unset, .unset, .unset, .unset, .unset, .unset, .unset, .unset, .unset, .unset, .unset, .unset, .unset, .unset, .unset] [(.long ((((x3.toUInt32 >>> ((2 : Int32) &&& 31).toUInt32).toInt32) &&& (3 : Int32)).toInt64)), (.int (1 : Int32)), (.ref b1)]) (fun t' k => XS.i2l X2.here hx rfl (hb hby at_103) rfl k) ?_
              refine X2.stJo hx hZ e2 A_b1 g_b1 1 (by decide) (by decide) ⟨_, rfl⟩ (hb hby at_104) ?_
              intro T3 h3 X3 e3 W3 A3
              replace A_b1 := A3
              replace hn := Nat.le_trans hn (Keep.of_wr W3).1
              refine own_go (mkF m 107 #[iv x0, jv x1, .second, iv x3, iv (own_bi bt0), iv (own_bi bt1), iv (own_bi bt2), iv (own_bi bt3), iv (own_bi bt4), iv (own_bi bt5), rv b1, .unset, .unset, .unset, .unset, .unset, .unset, .unset, .unset, .unset, .unset, .unset, .unset, .unset, .unset, .unset, .unset, .unset, .unset] [(.ref b1)]) (fun t' k => XS.aload X3.here hx rfl (hb hby at_105) rfl rfl  k) ?_
              refine own_go (mkF m 108 #[iv x0, jv x1, .second, iv x3, iv (own_bi bt0), iv (own_bi bt1), iv (own_bi bt2), iv (own_bi bt3), iv (own_bi bt4), iv (own_bi bt5), rv b1, .unset, .unset, .unset, .unset, .unset, .unset, .unset, .unset, .unset, .unset, .unset, .unset, .unset, .unset, .unset, .unset, .unset, .unset] [(.int (2 : Int32)), (.ref b1)]) (fun t' k => XS.iconst X3.here hx rfl (hb hby at_107) k) ?_
              refine own_go (mkF m 109 #[iv x0, jv x1, .second, iv x3, iv (own_bi bt0), iv (own_bi bt1), iv (own_bi bt2), iv (own_bi bt3), iv (own_bi bt4), iv (own_bi bt5), rv b1, .unset, .unset, .unset, .unset, .unset, .unset, .unset, .unset, .unset, .unset, .unset, .unset, .unset, .unset, .unset, .unset, .unset, .unset] [(.int x3), (.int (2 : Int32)), (.ref b1)]) (fun t' k => XS.iloadN X3.here hx rfl (hb hby at_108) rfl  k) ?_
              refine own_go (mkF m 110 #[iv x0, jv x1, .second, iv x3, iv (own_bi bt0), iv (own_bi bt1), iv (own_bi bt2), iv (own_bi bt3), iv (own_bi bt4), iv (own_bi bt5), rv b1, .unset, .unset, .unset, .unset, .unset, .unset, .unset, .unset, .unset, .unset, .unset, .unset, .unset, .unset, .unset, .unset, .unset, .unset] [(.int (4 : Int32)), (.int x3), (.int (2 : Int32)), (.ref b1)]) (fun t' k => XS.iconst X3.here hx rfl (hb hby at_109) k) ?_
              refine own_go (mkF m 111 #[iv x0, jv x1, .second, iv x3, iv (own_bi bt0), iv (own_bi bt1), iv (own_bi bt2), iv (own_bi bt3), iv (own_bi bt4), iv (own_bi bt5), rv b1, .unset, .unset, .unset, .unset, .unset, .unset, .unset, .unset, .unset, .unset, .unset, .unset, .unset, .unset, .unset, .unset, .unset, .unset] [(.int ((x3.toUInt32 >>> ((4 : Int32) &&& 31).toUInt32).toInt32)), (.int (2 : Int32)), (.ref b1)]) (fun t' k => XS.iushr X3.here hx rfl (hb hby at_110) rfl k) ?_
              refine own_go (mkF m 112 #[iv x0, jv x1, .second, iv x3, iv (own_bi bt0), iv (own_bi bt1), iv (own_bi bt2), iv (own_bi bt3), iv (own_bi bt4), iv (own_bi bt5), rv b1, .unset, .unset, .unset, .unset, .unset, .unset, .unset, .unset, .unset, .unset, .unset, .unset, .unset, .unset, .unset, .unset, .unset, .unset] [(.int (3 : Int32)), (.int ((x3.toUInt32 >>> ((4 : Int32) &&& 31).toUInt32).toInt32)), (.int (2 : Int32)), (.ref b1)]) (fun t' k => XS.iconst X3.here hx rfl (hb hby at_111) k) ?_
              refine own_go (mkF m 113 #[iv x0, jv x1, .second, iv x3, iv (own_bi bt0), iv (own_bi bt1), iv (own_bi bt2), iv (own_bi bt3), iv (own_bi bt4), iv (own_bi bt5), rv b1, .unset, .unset, .unset, .unset, .unset, .unset, .unset, .unset, .unset, .unset, .unset, .unset, .unset, .unset, .unset, .unset, .unset, .unset] [(.int (((x3.toUInt32 >>> ((4 : Int32) &&& 31).toUInt32).toInt32) &&& (3 : Int32))), (.int (2 : Int32)), (.ref b1)]) (fun t' k => XS.iand X3.here hx rfl (hb hby at_112) rfl k) ?_
              refine own_go (mkF m 114 #[iv x0, jv x1, .second, iv x3, iv (own_bi bt0), iv (own_bi bt1), iv (own_bi bt2), iv (own_bi bt3), iv (own_bi bt4), iv (own_bi bt5), rv b1, .unset, .unset, .unset, .unset, .unset, .unset, .unset, .unset, .unset, .unset, .unset, .unset, .unset, .unset, .unset, .unset, .unset, .unset] [(.long ((((x3.toUInt32 >>> ((4 : Int32) &&& 31).toUInt32).toInt32) &&& (3 : Int32)).toInt64)), (.int (2 : Int32)), (.ref b1)]) (fun t' k => XS.i2l X3.here hx rfl (hb hby at_113) rfl k) ?_
              refine X3.stJo hx hZ e3 A_b1 g_b1 2 (by decide) (by decide) ⟨_, rfl⟩ (hb hby at_114) ?_
              intro T4 h4 X4 e4 W4 A4
              replace A_b1 := A4
              replace hn := Nat.le_trans hn (Keep.of_wr W4).1
              refine own_go (mkF m 117 #[iv x0, jv x1, .second, iv x3, iv (own_bi bt0), iv (own_bi bt1), iv (own_bi bt2), iv (own_bi bt3), iv (own_bi bt4), iv (own_bi bt5), rv b1, .unset, .unset, .unset, .unset, .unset, .unset, .unset, .unset, .unset, .unset, .unset, .unset, .unset, .unset, .unset, .unset, .unset, .unset] [(.ref b1)]) (fun t' k => XS.aload X4.here hx rfl (hb hby at_115) rfl rfl  k) ?_
              refine own_go (mkF m 118 #[iv x0, jv x1, .second, iv x3, iv (own_bi bt0), iv (own_bi bt1), iv (own_bi bt2), iv (own_bi bt3), iv (own_bi bt4), iv (own_bi bt5), rv b1, .unset, .unset, .unset, .unset, .unset, .unset, .unset, .unset, .unset, .unset, .unset, .unset, .unset, .unset, .unset, .unset, .unset, .unset] [(.int (3 : Int32)), (.ref b1)]) (fun t' k => XS.iconst X4.here hx rfl (hb hby at_117) k) ?_
              refine own_go (mkF m 119 #[iv x0, jv x1, .second, iv x3, iv (own_bi bt0), iv (own_bi bt1), iv (own_bi bt2), iv (own_bi bt3), iv (own_bi bt4), iv (own_bi bt5), rv b1, .unset, .unset, .unset, .unset, .unset, .unset, .unset, .unset, .unset, .unset, .unset, .unset, .unset, .unset, .unset, .unset, .unset, .unset] [(.int x3), (.int (3 : Int32)), (.ref b1)]) (fun t' k => XS.iloadN X4.here hx rfl (hb hby at_118) rfl  k) ?_
              refine own_go (mkF m 121 #[iv x0, jv x1, .second, iv x3, iv (own_bi bt0), iv (own_bi bt1), iv (own_bi bt2), iv (own_bi bt3), iv (own_bi bt4), iv (own_bi bt5), rv b1, .unset, .unset, .unset, .unset, .unset, .unset, .unset, .unset, .unset, .unset, .unset, .unset, .unset, .unset, .unset, .unset, .unset, .unset] [(.int (6 : Int32)), (.int x3), (.int (3 : Int32)), (.ref b1)]) (fun t' k => XS.bipush X4.here hx rfl (hb hby at_119) k) ?_
              refine own_go (mkF m 122 #[iv x0, jv x1, .second, iv x3, iv (own_bi bt0), iv (own_bi bt1), iv (own_bi bt2), iv (own_bi bt3), iv (own_bi bt4), iv (own_bi bt5), rv b1, .unset, .unset, .unset, .unset, .unset, .unset, .unset, .unset, .unset, .unset, .unset, .unset, .unset, .unset, .unset, .unset, .unset, .unset] [(.int ((x3.toUInt32 >>> ((6 : Int32) &&& 31).toUInt32).toInt32)), (.int (3 : Int32)), (.ref b1)]) (fun t' k => XS.iushr X4.here hx rfl (hb hby at_121) rfl k) ?_
              refine own_go (mkF m 123 #[iv x0, jv x1, .second, iv x3, iv (own_bi bt0), iv (own_bi bt1), iv (own_bi bt2), iv (own_bi bt3), iv (own_bi bt4), iv (own_bi bt5), rv b1, .unset, .unset, .unset, .unset, .unset, .unset, .unset, .unset, .unset, .unset, .unset, .unset, .unset, .unset, .unset, .unset, .unset, .unset] [(.int (3 : Int32)), (.int ((x3.toUInt32 >>> ((6 : Int32) &&& 31).toUInt32).toInt32)), (.int (3 : Int32)), (.ref b1)]) (fun t' k => XS.iconst X4.here hx rfl (hb hby at_122) k) ?_
              refine own_go (mkF m 124 #[iv x0, jv x1, .second, iv x3, iv (own_bi bt0), iv (own_bi bt1), iv (own_bi bt2), iv (own_bi bt3), iv (own_bi bt4), iv (own_bi bt5), rv b1, .unset, .unset, .unset, .unset, .unset, .unset, .unset, .unset, .unset, .unset, .unset, .unset, .unset, .unset, .unset, .unset, .unset, .unset] [(.int (((x3.toUInt32 >>> ((6 : Int32) &&& 31).toUInt32).toInt32) &&& (3 : Int32))), (.int (3 : Int32)), (.ref b1)]) (fun t' k => XS.iand X4.here hx rfl (hb hby at_123) rfl k) ?_
              refine own_go (mkF m 125 #[iv x0, jv x1, .second, iv x3, iv (own_bi bt0), iv (own_bi bt1), iv (own_bi bt2), iv (own_bi bt3), iv (own_bi bt4), iv (own_bi bt5), rv b1, .unset, .unset, .unset, .unset, .unset, .unset, .unset, .unset, .unset, .unset, .unset, .unset, .unset, .unset, .unset, .unset, .unset, .unset] [(.long ((((x3.toUInt32 >>> ((6 : Int32) &&& 31).toUInt32).toInt32) &&& (3 : Int32)).toInt64)), (.int (3 : Int32)), (.ref b1)]) (fun t' k => XS.i2l X4.here hx rfl (hb hby at_124) rfl k) ?_
              refine X4.stJo hx hZ e4 A_b1 g_b1 3 (by decide) (by decide) ⟨_, rfl⟩ (hb hby at_125) ?_
              intro T5 h5 X5 e5 W5 A5
              replace A_b1 := A5
              replace hn := Nat.le_trans hn (Keep.of_wr W5).1
              refine own_go (mkF m 128 #[iv x0, jv x1, .second, iv x3, iv (own_bi bt0), iv (own_bi bt1), iv (own_bi bt2), iv (own_bi bt3), iv (own_bi bt4), iv (own_bi bt5), rv b1, .unset, .unset, .unset, .unset, .unset, .unset, .unset, .unset, .unset, .unset, .unset, .unset, .unset, .unset, .unset, .unset, .unset, .unset] [(.ref b1)]) (fun t' k => XS.aload X5.here hx rfl (hb hby at_126) rfl rfl  k) ?_
              refine own_go (mkF m 129 #[iv x0, jv x1, .second, iv x3, iv (own_bi bt0), iv (own_bi bt1), iv (own_bi bt2), iv (own_bi bt3), iv (own_bi bt4), iv (own_bi bt5), rv b1, .unset, .unset, .unset, .unset, .unset, .unset, .unset, .unset, .unset, .unset, .unset, .unset, .unset, .unset, .unset, .unset, .unset, .unset] [(.int (4 : Int32)), (.ref b1)]) (fun t' k => XS.iconst X5.here hx rfl (hb hby at_128) k) ?_
              refine own_go (mkF m 130 #[iv x0, jv x1, .second, iv x3, iv (own_bi bt0), iv (own_bi bt1), iv (own_bi bt2), iv (own_bi bt3), iv (own_bi bt4), iv (own_bi bt5), rv b1, .unset, .unset, .unset, .unset, .unset, .unset, .unset, .unset, .unset, .unset, .unset, .unset, .unset, .unset, .unset, .unset, .unset, .unset] [(.int x3), (.int (4 : Int32)), (.ref b1)]) (fun t' k => XS.iloadN X5.here hx rfl (hb hby at_129) rfl  k) ?_
              refine own_go (mkF m 132 #[iv x0, jv x1, .second, iv x3, iv (own_bi bt0), iv (own_bi bt1), iv (own_bi bt2), iv (own_bi bt3), iv (own_bi bt4), iv (own_bi bt5), rv b1, .unset, .unset, .unset, .unset, .unset, .unset, .unset, .unset, .unset, .unset, .unset, .unset, .unset, .unset, .unset, .unset, .unset, .unset] [(.int (8 : Int32)), (.int x3), (.int (4 : Int32)), (.ref b1)]) (fun t' k => XS.bipush X5.here hx rfl (hb hby at_130) k) ?_
              refine own_go (mkF m 133 #[iv x0, jv x1, .second, iv x3, iv (own_bi bt0), iv (own_bi bt1), iv (own_bi bt2), iv (own_bi bt3), iv (own_bi bt4), iv (own_bi bt5), rv b1, .unset, .unset, .unset, .unset, .unset, .unset, .unset, .unset, .unset, .unset, .unset, .unset, .unset, .unset, .unset, .unset, .unset, .unset] [(.int ((x3.toUInt32 >>> ((8 : Int32) &&& 31).toUInt32).toInt32)), (.int (4 : Int32)), (.ref b1)]) (fun t' k => XS.iushr X5.here hx rfl (hb hby at_132) rfl k) ?_
              refine own_go (mkF m 134 #[iv x0, jv x1, .second, iv x3, iv (own_bi bt0), iv (own_bi bt1), iv (own_bi bt2), iv (own_bi bt3), iv (own_bi bt4), iv (own_bi bt5), rv b1, .unset, .unset, .unset, .unset, .unset, .unset, .unset, .unset, .unset, .unset, .unset, .unset, .unset, .unset, .unset, .unset, .unset, .unset] [(.int (3 : Int32)), (.int ((x3.toUInt32 >>> ((8 : Int32) &&& 31).toUInt32).toInt32)), (.int (4 : Int32)), (.ref b1)]) (fun t' k => XS.iconst X5.here hx rfl (hb hby at_133) k) ?_
              refine own_go (mkF m 135 #[iv x0, jv x1, .second, iv x3, iv (own_bi bt0), iv (own_bi bt1), iv (own_bi bt2), iv (own_bi bt3), iv (own_bi bt4), iv (own_bi bt5), rv b1, .unset, .unset, .unset, .unset, .unset, .unset, .unset, .unset, .unset, .unset, .unset, .unset, .unset, .unset, .unset, .unset, .unset, .unset] [(.int (((x3.toUInt32 >>> ((8 : Int32) &&& 31).toUInt32).toInt32) &&& (3 : Int32))), (.int (4 : Int32)), (.ref b1)]) (fun t' k => XS.iand X5.here hx rfl (hb hby at_134) rfl k) ?_
              refine own_go (mkF m 136 #[iv x0, jv x1, .second, iv x3, iv (own_bi bt0), iv (own_bi bt1), iv (own_bi bt2), iv (own_bi bt3), iv (own_bi bt4), iv (own_bi bt5), rv b1, .unset, .unset, .unset, .unset, .unset, .unset, .unset, .unset, .unset, .unset, .unset, .unset, .unset, .unset, .unset, .unset, .unset, .unset] [(.long ((((x3.toUInt32 >>> ((8 : Int32) &&& 31).toUInt32).toInt32) &&& (3 : Int32)).toInt64)), (.int (4 : Int32)), (.ref b1)]) (fun t' k => XS.i2l X5.here hx rfl (hb hby at_135) rfl k) ?_
              refine X5.stJo hx hZ e5 A_b1 g_b1 4 (by decide) (by decide) ⟨_, rfl⟩ (hb hby at_136) ?_
              intro T6 h6 X6 e6 W6 A6
              replace A_b1 := A6
              replace hn := Nat.le_trans hn (Keep.of_wr W6).1
              refine own_go (mkF m 139 #[iv x0, jv x1, .second, iv x3, iv (own_bi bt0), iv (own_bi bt1), iv (own_bi bt2), iv (own_bi bt3), iv (own_bi bt4), iv (own_bi bt5), rv b1, .unset, .unset, .unset, .unset, .unset, .unset, .unset, .unset, .unset, .unset, .unset, .unset, .unset, .unset, .unset, .unset, .unset, .unset] [(.ref b1)]) (fun t' k => XS.aload X6.here hx rfl (hb hby at_137) rfl rfl  k) ?_
              refine own_go (mkF m 140 #[iv x0, jv x1, .second, iv x3, iv (own_bi bt0), iv (own_bi bt1), iv (own_bi bt2), iv (own_bi bt3), iv (own_bi bt4), iv (own_bi bt5), rv b1, .unset, .unset, .unset, .unset, .unset, .unset, .unset, .unset, .unset, .unset, .unset, .unset, .unset, .unset, .unset, .unset, .unset, .unset] [(.int (5 : Int32)), (.ref b1)]) (fun t' k => XS.iconst X6.here hx rfl (hb hby at_139) k) ?_
              refine own_go (mkF m 141 #[iv x0, jv x1, .second, iv x3, iv (own_bi bt0), iv (own_bi bt1), iv (own_bi bt2), iv (own_bi bt3), iv (own_bi bt4), iv (own_bi bt5), rv b1, .unset, .unset, .unset, .unset, .unset, .unset, .unset, .unset, .unset, .unset, .unset, .unset, .unset, .unset, .unset, .unset, .unset, .unset] [(.int x3), (.int (5 : Int32)), (.ref b1)]) (fun t' k => XS.iloadN X6.here hx rfl (hb hby at_140) rfl  k) ?_
              refine own_go (mkF m 143 #[iv x0, jv x1, .second, iv x3, iv (own_bi bt0), iv (own_bi bt1), iv (own_bi bt2), iv (own_bi bt3), iv (own_bi bt4), iv (own_bi bt5), rv b1, .unset, .unset, .unset, .unset, .unset, .unset, .unset, .unset, .unset, .unset, .unset, .unset, .unset, .unset, .unset, .unset, .unset, .unset] [(.int (10 : Int32)), (.int x3), (.int (5 : Int32)), (.ref b1)]) (fun t' k => XS.bipush X6.here hx rfl (hb hby at_141) k) ?_
              refine own_go (mkF m 144 #[iv x0, jv x1, .second, iv x3, iv (own_bi bt0), iv (own_bi bt1), iv (own_bi bt2), iv (own_bi bt3), iv (own_bi bt4), iv (own_bi bt5), rv b1, .unset, .unset, .unset, .unset, .unset, .unset, .unset, .unset, .unset, .unset, .unset, .unset, .unset, .unset, .unset, .unset, .unset, .unset] [(.int ((x3.toUInt32 >>> ((10 : Int32) &&& 31).toUInt32).toInt32)), (.int (5 : Int32)), (.ref b1)]) (fun t' k => XS.iushr X6.here hx rfl (hb hby at_143) rfl k) ?_
              refine own_go (mkF m 145 #[iv x0, jv x1, .second, iv x3, iv (own_bi bt0), iv (own_bi bt1), iv (own_bi bt2), iv (own_bi bt3), iv (own_bi bt4), iv (own_bi bt5), rv b1, .unset, .unset, .unset, .unset, .unset, .unset, .unset, .unset, .unset, .unset, .unset, .unset, .unset, .unset, .unset, .unset, .unset, .unset] [(.int (3 : Int32)), (.int ((x3.toUInt32 >>> ((10 : Int32) &&& 31).toUInt32).toInt32)), (.int (5 : Int32)), (.ref b1)]) (fun t' k => XS.iconst X6.here hx rfl (hb hby at_144) k) ?_
              refine own_go (mkF m 146 #[iv x0, jv x1, .second, iv x3, iv (own_bi bt0), iv (own_bi bt1), iv (own_bi bt2), iv (own_bi bt3), iv (own_bi bt4), iv (own_bi bt5), rv b1, .unset, .unset, .unset, .unset, .unset, .unset, .unset, .unset, .unset, .unset, .unset, .unset, .unset, .unset, .unset, .unset, .unset, .unset] [(.int (((x3.toUInt32 >>> ((10 : Int32) &&& 31).toUInt32).toInt32) &&& (3 : Int32))), (.int (5 : Int32)), (.ref b1)]) (fun t' k => XS.iand X6.here hx rfl (hb hby at_145) rfl k) ?_
              refine own_go (mkF m 147 #[iv x0, jv x1, .second, iv x3, iv (own_bi bt0), iv (own_bi bt1), iv (own_bi bt2), iv (own_bi bt3), iv (own_bi bt4), iv (own_bi bt5), rv b1, .unset, .unset, .unset, .unset, .unset, .unset, .unset, .unset, .unset, .unset, .unset, .unset, .unset, .unset, .unset, .unset, .unset, .unset] [(.long ((((x3.toUInt32 >>> ((10 : Int32) &&& 31).toUInt32).toInt32) &&& (3 : Int32)).toInt64)), (.int (5 : Int32)), (.ref b1)]) (fun t' k => XS.i2l X6.here hx rfl (hb hby at_146) rfl k) ?_
              refine X6.stJo hx hZ e6 A_b1 g_b1 5 (by decide) (by decide) ⟨_, rfl⟩ (hb hby at_147) ?_
              intro T7 h7 X7 e7 W7 A7
              replace A_b1 := A7
              replace hn := Nat.le_trans hn (Keep.of_wr W7).1
              refine X7.newO hx hZ hown (hw _ (List.mem_of_getElem? (i := 1) rfl)) (hw _ (List.mem_of_getElem? (i := 2) rfl)) (hw _ (List.mem_of_getElem? (i := 3) rfl)) e7 (hb hby at_148) (by decide) (by decide) ?_
              intro T8 h8 b8 X8 e8 q8 xt8 E_b8 D8
              have g_b8 : h0.size ≤ b8 := by rw [q8]; exact hn
              have lt_b1_b8 : b1 < b8 := by rw [q8]; exact A_b1.lt
              replace A_b1 := A_b1.ext xt8
              replace hn := Nat.le_trans hn xt8.1
              have F_b8_climbsBetweenRebases : Fld Z h8 b8 "com/example/load_across_peers/loadacrosspeers/internal/pick/WeightTree" "climbsBetweenRebases" "J" (.long (0 : Int64)) := D8 (Or.inr (hw _ (List.mem_of_getElem? (i := 12) rfl))) (ty := .long) (by decide)
              have F_b8_weights : Fld Z h8 b8 "com/example/load_across_peers/loadacrosspeers/internal/pick/WeightTree" "weights" "[J" .null := D8 (Or.inr (hw _ (List.mem_of_getElem? (i := 14) rfl))) (ty := (.array .long)) (by decide)
              have F_b8_present : Fld Z h8 b8 "com/example/load_across_peers/loadacrosspeers/internal/pick/WeightTree" "present" "[Z" .null := D8 (Or.inr (hw _ (List.mem_of_getElem? (i := 17) rfl))) (ty := (.array .boolean)) (by decide)
              have F_b8_sums : Fld Z h8 b8 "com/example/load_across_peers/loadacrosspeers/internal/pick/WeightTree" "sums" "[J" .null := D8 (Or.inr (hw _ (List.mem_of_getElem? (i := 19) rfl))) (ty := (.array .long)) (by decide)
              have F_b8_counts : Fld Z h8 b8 "com/example/load_across_peers/loadacrosspeers/internal/pick/WeightTree" "counts" "[I" .null := D8 (Or.inr (hw _ (List.mem_of_getElem? (i := 22) rfl))) (ty := (.array .int)) (by decide)
              have F_b8_top : Fld Z h8 b8 "com/example/load_across_peers/loadacrosspeers/internal/pick/WeightTree" "top" "I" (.int (0 : Int32)) := D8 (Or.inr (hw _ (List.mem_of_getElem? (i := 33) rfl))) (ty := .int) (by decide)
              have F_b8_total : Fld Z h8 b8 "com/example/load_across_peers/loadacrosspeers/internal/pick/WeightTree" "total" "J" (.long (0 : Int64)) := D8 (Or.inl (hw _ (List.mem_of_getElem? (i := 35) rfl))) (ty := .long) (by decide)
              have F_b8_taking : Fld Z h8 b8 "com/example/load_across_peers/loadacrosspeers/internal/pick/WeightTree" "taking" "I" (.int (0 : Int32)) := D8 (Or.inl (hw _ (List.mem_of_getElem? (i := 37) rfl))) (ty := .int) (by decide)
              have F_b8_rising : Fld Z h8 b8 "com/example/load_across_peers/loadacrosspeers/internal/pick/WeightTree" "rising" "[Z" .null := D8 (Or.inl (hw _ (List.mem_of_getElem? (i := 54) rfl))) (ty := (.array .boolean)) (by decide)
              have F_b8_risingCount : Fld Z h8 b8 "com/example/load_across_peers/loadacrosspeers/internal/pick/WeightTree" "risingCount" "J" (.long (0 : Int64)) := D8 (Or.inl (hw _ (List.mem_of_getElem? (i := 60) rfl))) (ty := .long) (by decide)
              have F_b8_risers : Fld Z h8 b8 "com/example/load_across_peers/loadacrosspeers/internal/pick/WeightTree" "risers" "[J" .null := D8 (Or.inl (hw _ (List.mem_of_getElem? (i := 62) rfl))) (ty := (.array .long)) (by decide)
              refine own_go (mkF m 152 #[iv x0, jv x1, .second, iv x3, iv (own_bi bt0), iv (own_bi bt1), iv (own_bi bt2), iv (own_bi bt3), iv (own_bi bt4), iv (own_bi bt5), rv b1, .unset, .unset, .unset, .unset, .unset, .unset, .unset, .unset, .unset, .unset, .unset, .unset, .unset, .unset, .unset, .unset, .unset, .unset] [(.ref b8), (.ref b8)]) (fun t' k => XS.dup X8.here hx rfl (hb hby at_151) rfl rfl k) ?_
              refine own_go (mkF m 154 #[iv x0, jv x1, .second, iv x3, iv (own_bi bt0), iv (own_bi bt1), iv (own_bi bt2), iv (own_bi bt3), iv (own_bi bt4), iv (own_bi bt5), rv b1, .unset, .unset, .unset, .unset, .unset, .unset, .unset, .unset, .unset, .unset, .unset, .unset, .unset, .unset, .unset, .unset, .unset, .unset] [(.ref b1), (.ref b8), (.ref b8)]) (fun t' k => XS.aload X8.here hx rfl (hb hby at_152) rfl rfl  k) ?_
              refine own_go (mkF m 157 #[iv x0, jv x1, .second, iv x3, iv (own_bi bt0), iv (own_bi bt1), iv (own_bi bt2), iv (own_bi bt3), iv (own_bi bt4), iv (own_bi bt5), rv b1, .unset, .unset, .unset, .unset, .unset, .unset, .unset, .unset, .unset, .unset, .unset, .unset, .unset, .unset, .unset, .unset, .unset, .unset] [(.long (2147483648 : Int64)), (.ref b1), (.ref b8), (.ref b8)]) (fun t' k => X8.ldc2Long hx hown (mvT hZ (hw _ (List.mem_of_getElem? (i := 4) rfl))) (g := (mkF m 154 #[iv x0, jv x1, .second, iv x3, iv (own_bi bt0), iv (own_bi bt1), iv (own_bi bt2), iv (own_bi bt3), iv (own_bi bt4), iv (own_bi bt5), rv b1, .unset, .unset, .unset, .unset, .unset, .unset, .unset, .unset, .unset, .unset, .unset, .unset, .unset, .unset, .unset, .unset, .unset, .unset] [(.ref b1), (.ref b8), (.ref b8)])) rfl (hb hby at_154) _ k) ?_
              refine X8.callI hx hZ (y := (⟨"com/example/load_across_peers/loadacrosspeers/internal/pick/WeightTree", "<init>", "([JJ)V"⟩ : MethodName)) rfl hown (hw _ (List.mem_of_getElem? (i := 5) rfl)) (hw _ (List.mem_of_getElem? (i := 6) rfl)) (hw _ (List.mem_of_getElem? (i := 3) rfl)) (hw _ (List.mem_of_getElem? (i := 7) rfl)) (by decide) e8 b8 [(.ref b1), (.long (2147483648 : Int64))] [(.ref b8)] (own_rmI l Z a0 hw [] h8 h0.size hn b8 b1 g_b8 (Ne.symm (Nat.ne_of_lt lt_b1_b8)) (2147483648 : Int64) E_b8 A_b1 F_b8_climbsBetweenRebases F_b8_weights F_b8_present F_b8_sums F_b8_counts F_b8_top F_b8_total F_b8_taking F_b8_rising F_b8_risingCount) 1 (by decide) (by decide) (Nat.le_of_eq rfl) (by decide) (by decide) (by rw [hml]; rfl) (lenOf own_pd3 rfl) rfl (hb hby at_157) ?_
              rintro T9 _ X9 ⟨rfl, bp, bs, bc, HT9⟩
              replace HT9 : own_T Z T9.heap h0.size b8 b1 bp bs bc (own_cs true true true true true true) := by rw [own_cs0]; exact HT9
              show own_G p e below s _ _ _ T9 (mkF m 160 #[iv x0, jv x1, .second, iv x3, iv (own_bi bt0), iv (own_bi bt1), iv (own_bi bt2), iv (own_bi bt3), iv (own_bi bt4), iv (own_bi bt5), rv b1, .unset, .unset, .unset, .unset, .unset, .unset, .unset, .unset, .unset, .unset, .unset, .unset, .unset, .unset, .unset, .unset, .unset, .unset] [(.ref b8)])
              refine own_go (mkF m 162 #[iv x0, jv x1, .second, iv x3, iv (own_bi bt0), iv (own_bi bt1), iv (own_bi bt2), iv (own_bi bt3), iv (own_bi bt4), iv (own_bi bt5), rv b1, rv b8, .unset, .unset, .unset, .unset, .unset, .unset, .unset, .unset, .unset, .unset, .unset, .unset, .unset, .unset, .unset, .unset, .unset] []) (fun t' k => XS.astore X9.here hx rfl (hb hby at_160) rfl rfl (l' := #[iv x0, jv x1, .second, iv x3, iv (own_bi bt0), iv (own_bi bt1), iv (own_bi bt2), iv (own_bi bt3), iv (own_bi bt4), iv (own_bi bt5), rv b1, rv b8, .unset, .unset, .unset, .unset, .unset, .unset, .unset, .unset, .unset, .unset, .unset, .unset, .unset, .unset, .unset, .unset, .unset]) rfl k) ?_
              have K1 : ∀ TK1, own_S p l e room_1 s m #[(.int x0), (.long x1), (.int x3)] below meth c h0.size TK1 10 60 → own_T Z TK1.heap h0.size b8 b1 bp bs bc (own_cs bt0 true true true true true) → own_G p e below s (own_Q h0.size (fun v h => v = some (.int 1))) room_1.cells room_1.slots TK1 (mkF m 173 #[iv x0, jv x1, .second, iv x3, iv (own_bi bt0), iv (own_bi bt1), iv (own_bi bt2), iv (own_bi bt3), iv (own_bi bt4), iv (own_bi bt5), rv b1, rv b8, .unset, .unset, .unset, .unset, .unset, .unset, .unset, .unset, .unset, .unset, .unset, .unset, .unset, .unset, .unset, .unset, .unset] []) := by
                intro TK1 XK1 HK1
                have K2 : ∀ TK2, own_S p l e room_1 s m #[(.int x0), (.long x1), (.int x3)] below meth c h0.size TK2 10 60 → own_T Z TK2.heap h0.size b8 b1 bp bs bc (own_cs bt0 bt1 true true true true) → own_G p e below s (own_Q h0.size (fun v h => v = some (.int 1))) room_1.cells room_1.slots TK2 (mkF m 184 #[iv x0, jv x1, .second, iv x3, iv (own_bi bt0), iv (own_bi bt1), iv (own_bi bt2), iv (own_bi bt3), iv (own_bi bt4), iv (own_bi bt5), rv b1, rv b8, .unset, .unset, .unset, .unset, .unset, .unset, .unset, .unset, .unset, .unset, .unset, .unset, .unset, .unset, .unset, .unset, .unset] []) := by
                  intro TK2 XK2 HK2
                  have K3 : ∀ TK3, own_S p l e room_1 s m #[(.int x0), (.long x1), (.int x3)] below meth c h0.size TK3 10 60 → own_T Z TK3.heap h0.size b8 b1 bp bs bc (own_cs bt0 bt1 bt2 true true true) → own_G p e below s (own_Q h0.size (fun v h => v = some (.int 1))) room_1.cells room_1.slots TK3 (mkF m 195 #[iv x0, jv x1, .second, iv x3, iv (own_bi bt0), iv (own_bi bt1), iv (own_bi bt2), iv (own_bi bt3), iv (own_bi bt4), iv (own_bi bt5), rv b1, rv b8, .unset, .unset, .unset, .unset, .unset, .unset, .unset, .unset, .unset, .unset, .unset, .unset, .unset, .unset, .unset, .unset, .unset] []) := by
                    intro TK3 XK3 HK3
                    have K4 : ∀ TK4, own_S p l e room_1 s m #[(.int x0), (.long x1), (.int x3)] below meth c h0.size TK4 10 60 → own_T Z TK4.heap h0.size b8 b1 bp bs bc (own_cs bt0 bt1 bt2 bt3 true true) → own_G p e below s (own_Q h0.size (fun v h => v = some (.int 1))) room_1.cells room_1.slots TK4 (mkF m 206 #[iv x0, jv x1, .second, iv x3, iv (own_bi bt0), iv (own_bi bt1), iv (own_bi bt2), iv (own_bi bt3), iv (own_bi bt4), iv (own_bi bt5), rv b1, rv b8, .unset, .unset, .unset, .unset, .unset, .unset, .unset, .unset, .unset, .unset, .unset, .unset, .unset, .unset, .unset, .unset, .unset] []) := by
                      intro TK4 XK4 HK4
                      have K5 : ∀ TK5, own_S p l e room_1 s m #[(.int x0), (.long x1), (.int x3)] below meth c h0.size TK5 10 60 → own_T Z TK5.heap h0.size b8 b1 bp bs bc (own_cs bt0 bt1 bt2 bt3 bt4 true) → own_G p e below s (own_Q h0.size (fun v h => v = some (.int 1))) room_1.cells room_1.slots TK5 (mkF m 217 #[iv x0, jv x1, .second, iv x3, iv (own_bi bt0), iv (own_bi bt1), iv (own_bi bt2), iv (own_bi bt3), iv (own_bi bt4), iv (own_bi bt5), rv b1, rv b8, .unset, .unset, .unset, .unset, .unset, .unset, .unset, .unset, .unset, .unset, .unset, .unset, .unset, .unset, .unset, .unset, .unset] []) := by
                        intro TK5 XK5 HK5
                        have K6 : ∀ TK6, own_S p l e room_1 s m #[(.int x0), (.long x1), (.int x3)] below meth c h0.size TK6 10 60 → own_T Z TK6.heap h0.size b8 b1 bp bs bc (own_cs bt0 bt1 bt2 bt3 bt4 bt5) → own_G p e below s (own_Q h0.size (fun v h => v = some (.int 1))) room_1.cells room_1.slots TK6 (mkF m 228 #[iv x0, jv x1, .second, iv x3, iv (own_bi bt0), iv (own_bi bt1), iv (own_bi bt2), iv (own_bi bt3), iv (own_bi bt4), iv (own_bi bt5), rv b1, rv b8, .unset, .unset, .unset, .unset, .unset, .unset, .unset, .unset, .unset, .unset, .unset, .unset, .unset, .unset, .unset, .unset, .unset] []) := by
                          intro TK6 XK6 HK6
                          refine own_go (mkF m 229 #[iv x0, jv x1, .second, iv x3, iv (own_bi bt0), iv (own_bi bt1), iv (own_bi bt2), iv (own_bi bt3), iv (own_bi bt4), iv (own_bi bt5), rv b1, rv b8, .unset, .unset, .unset, .unset, .unset, .unset, .unset, .unset, .unset, .unset, .unset, .unset, .unset, .unset, .unset, .unset, .unset] [(.long (0 : Int64))]) (fun t' k => XS.lconst XK6.here hx rfl (hb hby at_228) k) ?_
                          refine own_go (mkF m 231 #[iv x0, jv x1, .second, iv x3, iv (own_bi bt0), iv (own_bi bt1), iv (own_bi bt2), iv (own_bi bt3), iv (own_bi bt4), iv (own_bi bt5), rv b1, rv b8, jv (0 : Int64), .second, .unset, .unset, .unset, .unset, .unset, .unset, .unset, .unset, .unset, .unset, .unset, .unset, .unset, .unset, .unset] []) (fun t' k => XS.lstore XK6.here hx rfl (hb hby at_229) rfl (l' := #[iv x0, jv x1, .second, iv x3, iv (own_bi bt0), iv (own_bi bt1), iv (own_bi bt2), iv (own_bi bt3), iv (own_bi bt4), iv (own_bi bt5), rv b1, rv b8, jv (0 : Int64), .second, .unset, .unset, .unset, .unset, .unset, .unset, .unset, .unset, .unset, .unset, .unset, .unset, .unset, .unset, .unset]) rfl k) ?_
                          refine own_go (mkF m 233 #[iv x0, jv x1, .second, iv x3, iv (own_bi bt0), iv (own_bi bt1), iv (own_bi bt2), iv (own_bi bt3), iv (own_bi bt4), iv (own_bi bt5), rv b1, rv b8, jv (0 : Int64), .second, .unset, .unset, .unset, .unset, .unset, .unset, .unset, .unset, .unset, .unset, .unset, .unset, .unset, .unset, .unset] [(.long (0 : Int64))]) (fun t' k => XS.lload XK6.here hx rfl (hb hby at_231) rfl  k) ?_
                          have JQ0 : ∀ (q0 : Int32), (q0 = own_bi bt0) → own_G p e below s (own_Q h0.size (fun v h => v = some (.int 1))) room_1.cells room_1.slots TK6 (mkF m 243 #[iv x0, jv x1, .second, iv x3, iv (own_bi bt0), iv (own_bi bt1), iv (own_bi bt2), iv (own_bi bt3), iv (own_bi bt4), iv (own_bi bt5), rv b1, rv b8, jv (0 : Int64), .second, .unset, .unset, .unset, .unset, .unset, .unset, .unset, .unset, .unset, .unset, .unset, .unset, .unset, .unset, .unset] [(.int q0), (.long (0 : Int64))]) := by
                            intro q0 hJQ0
                            subst hJQ0
                            refine own_go (mkF m 244 #[iv x0, jv x1, .second, iv x3, iv (own_bi bt0), iv (own_bi bt1), iv (own_bi bt2), iv (own_bi bt3), iv (own_bi bt4), iv (own_bi bt5), rv b1, rv b8, jv (0 : Int64), .second, .unset, .unset, .unset, .unset, .unset, .unset, .unset, .unset, .unset, .unset, .unset, .unset, .unset, .unset, .unset] [(.long ((own_bi bt0).toInt64)), (.long (0 : Int64))]) (fun t' k => XS.i2l XK6.here hx rfl (hb hby at_243) rfl k) ?_
                            refine own_go (mkF m 245 #[iv x0, jv x1, .second, iv x3, iv (own_bi bt0), iv (own_bi bt1), iv (own_bi bt2), iv (own_bi bt3), iv (own_bi bt4), iv (own_bi bt5), rv b1, rv b8, jv (0 : Int64), .second, .unset, .unset, .unset, .unset, .unset, .unset, .unset, .unset, .unset, .unset, .unset, .unset, .unset, .unset, .unset] [(.long ((0 : Int64) + ((own_bi bt0).toInt64)))]) (fun t' k => XS.ladd XK6.here hx rfl (hb hby at_244) rfl k) ?_
                            refine own_go (mkF m 247 #[iv x0, jv x1, .second, iv x3, iv (own_bi bt0), iv (own_bi bt1), iv (own_bi bt2), iv (own_bi bt3), iv (own_bi bt4), iv (own_bi bt5), rv b1, rv b8, jv (0 : Int64), .second, jv ((0 : Int64) + ((own_bi bt0).toInt64)), .second, .unset, .unset, .unset, .unset, .unset, .unset, .unset, .unset, .unset, .unset, .unset, .unset, .unset] []) (fun t' k => XS.lstore XK6.here hx rfl (hb hby at_245) rfl (l' := #[iv x0, jv x1, .second, iv x3, iv (own_bi bt0), iv (own_bi bt1), iv (own_bi bt2), iv (own_bi bt3), iv (own_bi bt4), iv (own_bi bt5), rv b1, rv b8, jv (0 : Int64), .second, jv ((0 : Int64) + ((own_bi bt0).toInt64)), .second, .unset, .unset, .unset, .unset, .unset, .unset, .unset, .unset, .unset, .unset, .unset, .unset, .unset]) rfl k) ?_
                            refine own_go (mkF m 249 #[iv x0, jv x1, .second, iv x3, iv (own_bi bt0), iv (own_bi bt1), iv (own_bi bt2), iv (own_bi bt3), iv (own_bi bt4), iv (own_bi bt5), rv b1, rv b8, jv (0 : Int64), .second, jv ((0 : Int64) + ((own_bi bt0).toInt64)), .second, .unset, .unset, .unset, .unset, .unset, .unset, .unset, .unset, .unset, .unset, .unset, .unset, .unset] [(.long ((0 : Int64) + ((own_bi bt0).toInt64)))]) (fun t' k => XS.lload XK6.here hx rfl (hb hby at_247) rfl  k) ?_
                            have JQ1 : ∀ (q1 : Int32), (q1 = own_bi bt1) → own_G p e below s (own_Q h0.size (fun v h => v = some (.int 1))) room_1.cells room_1.slots TK6 (mkF m 259 #[iv x0, jv x1, .second, iv x3, iv (own_bi bt0), iv (own_bi bt1), iv (own_bi bt2), iv (own_bi bt3), iv (own_bi bt4), iv (own_bi bt5), rv b1, rv b8, jv (0 : Int64), .second, jv ((0 : Int64) + ((own_bi bt0).toInt64)), .second, .unset, .unset, .unset, .unset, .unset, .unset, .unset, .unset, .unset, .unset, .unset, .unset, .unset] [(.int q1), (.long ((0 : Int64) + ((own_bi bt0).toInt64)))]) := by
                              intro q1 hJQ1
                              subst hJQ1
                              refine own_go (mkF m 260 #[iv x0, jv x1, .second, iv x3, iv (own_bi bt0), iv (own_bi bt1), iv (own_bi bt2), iv (own_bi bt3), iv (own_bi bt4), iv (own_bi bt5), rv b1, rv b8, jv (0 : Int64), .second, jv ((0 : Int64) + ((own_bi bt0).toInt64)), .second, .unset, .unset, .unset, .unset, .unset, .unset, .unset, .unset, .unset, .unset, .unset, .unset, .unset] [(.long ((own_bi bt1).toInt64)), (.long ((0 : Int64) + ((own_bi bt0).toInt64)))]) (fun t' k => XS.i2l XK6.here hx rfl (hb hby at_259) rfl k) ?_
                              refine own_go (mkF m 261 #[iv x0, jv x1, .second, iv x3, iv (own_bi bt0), iv (own_bi bt1), iv (own_bi bt2), iv (own_bi bt3), iv (own_bi bt4), iv (own_bi bt5), rv b1, rv b8, jv (0 : Int64), .second, jv ((0 : Int64) + ((own_bi bt0).toInt64)), .second, .unset, .unset, .unset, .unset, .unset, .unset, .unset, .unset, .unset, .unset, .unset, .unset, .unset] [(.long (((0 : Int64) + ((own_bi bt0).toInt64)) + ((own_bi bt1).toInt64)))]) (fun t' k => XS.ladd XK6.here hx rfl (hb hby at_260) rfl k) ?_
                              refine own_go (mkF m 263 #[iv x0, jv x1, .second, iv x3, iv (own_bi bt0), iv (own_bi bt1), iv (own_bi bt2), iv (own_bi bt3), iv (own_bi bt4), iv (own_bi bt5), rv b1, rv b8, jv (0 : Int64), .second, jv ((0 : Int64) + ((own_bi bt0).toInt64)), .second, jv (((0 : Int64) + ((own_bi bt0).toInt64)) + ((own_bi bt1).toInt64)), .second, .unset, .unset, .unset, .unset, .unset, .unset, .unset, .unset, .unset, .unset, .unset] []) (fun t' k => XS.lstore XK6.here hx rfl (hb hby at_261) rfl (l' := #[iv x0, jv x1, .second, iv x3, iv (own_bi bt0), iv (own_bi bt1), iv (own_bi bt2), iv (own_bi bt3), iv (own_bi bt4), iv (own_bi bt5), rv b1, rv b8, jv (0 : Int64), .second, jv ((0 : Int64) + ((own_bi bt0).toInt64)), .second, jv (((0 : Int64) + ((own_bi bt0).toInt64)) + ((own_bi bt1).toInt64)), .second, .unset, .unset, .unset, .unset, .unset, .unset, .unset, .unset, .unset, .unset, .unset]) rfl k) ?_
                              refine own_go (mkF m 265 #[iv x0, jv x1, .second, iv x3, iv (own_bi bt0), iv (own_bi bt1), iv (own_bi bt2), iv (own_bi bt3), iv (own_bi bt4), iv (own_bi bt5), rv b1, rv b8, jv (0 : Int64), .second, jv ((0 : Int64) + ((own_bi bt0).toInt64)), .second, jv (((0 : Int64) + ((own_bi bt0).toInt64)) + ((own_bi bt1).toInt64)), .second, .unset, .unset, .unset, .unset, .unset, .unset, .unset, .unset, .unset, .unset, .unset] [(.long (((0 : Int64) + ((own_bi bt0).toInt64)) + ((own_bi bt1).toInt64)))]) (fun t' k => XS.lload XK6.here hx rfl (hb hby at_263) rfl  k) ?_
                              have JQ2 : ∀ (q2 : Int32), (q2 = own_bi bt2) → own_G p e below s (own_Q h0.size (fun v h => v = some (.int 1))) room_1.cells room_1.slots TK6 (mkF m 275 #[iv x0, jv x1, .second, iv x3, iv (own_bi bt0), iv (own_bi bt1), iv (own_bi bt2), iv (own_bi bt3), iv (own_bi bt4), iv (own_bi bt5), rv b1, rv b8, jv (0 : Int64), .second, jv ((0 : Int64) + ((own_bi bt0).toInt64)), .second, jv (((0 : Int64) + ((own_bi bt0).toInt64)) + ((own_bi bt1).toInt64)), .second, .unset, .unset, .unset, .unset, .unset, .unset, .unset, .unset, .unset, .unset, .unset] [(.int q2), (.long (((0 : Int64) + ((own_bi bt0).toInt64)) + ((own_bi bt1).toInt64)))]) := by
                                intro q2 hJQ2
                                subst hJQ2
                                refine own_go (mkF m 276 #[iv x0, jv x1, .second, iv x3, iv (own_bi bt0), iv (own_bi bt1), iv (own_bi bt2), iv (own_bi bt3), iv (own_bi bt4), iv (own_bi bt5), rv b1, rv b8, jv (0 : Int64), .second, jv ((0 : Int64) + ((own_bi bt0).toInt64)), .second, jv (((0 : Int64) + ((own_bi bt0).toInt64)) + ((own_bi bt1).toInt64)), .second, .unset, .unset, .unset, .unset, .unset, .unset, .unset, .unset, .unset, .unset, .unset] [(.long ((own_bi bt2).toInt64)), (.long (((0 : Int64) + ((own_bi bt0).toInt64)) + ((own_bi bt1).toInt64)))]) (fun t' k => XS.i2l XK6.here hx rfl (hb hby at_275) rfl k) ?_
                                refine own_go (mkF m 277 #[iv x0, jv x1, .second, iv x3, iv (own_bi bt0), iv (own_bi bt1), iv (own_bi bt2), iv (own_bi bt3), iv (own_bi bt4), iv (own_bi bt5), rv b1, rv b8, jv (0 : Int64), .second, jv ((0 : Int64) + ((own_bi bt0).toInt64)), .second, jv (((0 : Int64) + ((own_bi bt0).toInt64)) + ((own_bi bt1).toInt64)), .second, .unset, .unset, .unset, .unset, .unset, .unset, .unset, .unset, .unset, .unset, .unset] [(.long ((((0 : Int64) + ((own_bi bt0).toInt64)) + ((own_bi bt1).toInt64)) + ((own_bi bt2).toInt64)))]) (fun t' k => XS.ladd XK6.here hx rfl (hb hby at_276) rfl k) ?_
                                refine own_go (mkF m 279 #[iv x0, jv x1, .second, iv x3, iv (own_bi bt0), iv (own_bi bt1), iv (own_bi bt2), iv (own_bi bt3), iv (own_bi bt4), iv (own_bi bt5), rv b1, rv b8, jv (0 : Int64), .second, jv ((0 : Int64) + ((own_bi bt0).toInt64)), .second, jv (((0 : Int64) + ((own_bi bt0).toInt64)) + ((own_bi bt1).toInt64)), .second, jv ((((0 : Int64) + ((own_bi bt0).toInt64)) + ((own_bi bt1).toInt64)) + ((own_bi bt2).toInt64)), .second, .unset, .unset, .unset, .unset, .unset, .unset, .unset, .unset, .unset] []) (fun t' k => XS.lstore XK6.here hx rfl (hb hby at_277) rfl (l' := #[iv x0, jv x1, .second, iv x3, iv (own_bi bt0), iv (own_bi bt1), iv (own_bi bt2), iv (own_bi bt3), iv (own_bi bt4), iv (own_bi bt5), rv b1, rv b8, jv (0 : Int64), .second, jv ((0 : Int64) + ((own_bi bt0).toInt64)), .second, jv (((0 : Int64) + ((own_bi bt0).toInt64)) + ((own_bi bt1).toInt64)), .second, jv ((((0 : Int64) + ((own_bi bt0).toInt64)) + ((own_bi bt1).toInt64)) + ((own_bi bt2).toInt64)), .second, .unset, .unset, .unset, .unset, .unset, .unset, .unset, .unset, .unset]) rfl k) ?_
                                refine own_go (mkF m 281 #[iv x0, jv x1, .second, iv x3, iv (own_bi bt0), iv (own_bi bt1), iv (own_bi bt2), iv (own_bi bt3), iv (own_bi bt4), iv (own_bi bt5), rv b1, rv b8, jv (0 : Int64), .second, jv ((0 : Int64) + ((own_bi bt0).toInt64)), .second, jv (((0 : Int64) + ((own_bi bt0).toInt64)) + ((own_bi bt1).toInt64)), .second, jv ((((0 : Int64) + ((own_bi bt0).toInt64)) + ((own_bi bt1).toInt64)) + ((own_bi bt2).toInt64)), .second, .unset, .unset, .unset, .unset, .unset, .unset, .unset, .unset, .unset] [(.long ((((0 : Int64) + ((own_bi bt0).toInt64)) + ((own_bi bt1).toInt64)) + ((own_bi bt2).toInt64)))]) (fun t' k => XS.lload XK6.here hx rfl (hb hby at_279) rfl  k) ?_
                                have JQ3 : ∀ (q3 : Int32), (q3 = own_bi bt3) → own_G p e below s (own_Q h0.size (fun v h => v = some (.int 1))) room_1.cells room_1.slots TK6 (mkF m 291 #[iv x0, jv x1, .second, iv x3, iv (own_bi bt0), iv (own_bi bt1), iv (own_bi bt2), iv (own_bi bt3), iv (own_bi bt4), iv (own_bi bt5), rv b1, rv b8, jv (0 : Int64), .second, jv ((0 : Int64) + ((own_bi bt0).toInt64)), .second, jv (((0 : Int64) + ((own_bi bt0).toInt64)) + ((own_bi bt1).toInt64)), .second, jv ((((0 : Int64) + ((own_bi bt0).toInt64)) + ((own_bi bt1).toInt64)) + ((own_bi bt2).toInt64)), .second, .unset, .unset, .unset, .unset, .unset, .unset, .unset, .unset, .unset] [(.int q3), (.long ((((0 : Int64) + ((own_bi bt0).toInt64)) + ((own_bi bt1).toInt64)) + ((own_bi bt2).toInt64)))]) := by
                                  intro q3 hJQ3
                                  subst hJQ3
                                  refine own_go (mkF m 292 #[iv x0, jv x1, .second, iv x3, iv (own_bi bt0), iv (own_bi bt1), iv (own_bi bt2), iv (own_bi bt3), iv (own_bi bt4), iv (own_bi bt5), rv b1, rv b8, jv (0 : Int64), .second, jv ((0 : Int64) + ((own_bi bt0).toInt64)), .second, jv (((0 : Int64) + ((own_bi bt0).toInt64)) + ((own_bi bt1).toInt64)), .second, jv ((((0 : Int64) + ((own_bi bt0).toInt64)) + ((own_bi bt1).toInt64)) + ((own_bi bt2).toInt64)), .second, .unset, .unset, .unset, .unset, .unset, .unset, .unset, .unset, .unset] [(.long ((own_bi bt3).toInt64)), (.long ((((0 : Int64) + ((own_bi bt0).toInt64)) + ((own_bi bt1).toInt64)) + ((own_bi bt2).toInt64)))]) (fun t' k => XS.i2l XK6.here hx rfl (hb hby at_291) rfl k) ?_
                                  refine own_go (mkF m 293 #[iv x0, jv x1, .second, iv x3, iv (own_bi bt0), iv (own_bi bt1), iv (own_bi bt2), iv (own_bi bt3), iv (own_bi bt4), iv (own_bi bt5), rv b1, rv b8, jv (0 : Int64), .second, jv ((0 : Int64) + ((own_bi bt0).toInt64)), .second, jv (((0 : Int64) + ((own_bi bt0).toInt64)) + ((own_bi bt1).toInt64)), .second, jv ((((0 : Int64) + ((own_bi bt0).toInt64)) + ((own_bi bt1).toInt64)) + ((own_bi bt2).toInt64)), .second, .unset, .unset, .unset, .unset, .unset, .unset, .unset, .unset, .unset] [(.long (((((0 : Int64) + ((own_bi bt0).toInt64)) + ((own_bi bt1).toInt64)) + ((own_bi bt2).toInt64)) + ((own_bi bt3).toInt64)))]) (fun t' k => XS.ladd XK6.here hx rfl (hb hby at_292) rfl k) ?_
                                  refine own_go (mkF m 295 #[iv x0, jv x1, .second, iv x3, iv (own_bi bt0), iv (own_bi bt1), iv (own_bi bt2), iv (own_bi bt3), iv (own_bi bt4), iv (own_bi bt5), rv b1, rv b8, jv (0 : Int64), .second, jv ((0 : Int64) + ((own_bi bt0).toInt64)), .second, jv (((0 : Int64) + ((own_bi bt0).toInt64)) + ((own_bi bt1).toInt64)), .second, jv ((((0 : Int64) + ((own_bi bt0).toInt64)) + ((own_bi bt1).toInt64)) + ((own_bi bt2).toInt64)), .second, jv (((((0 : Int64) + ((own_bi bt0).toInt64)) + ((own_bi bt1).toInt64)) + ((own_bi bt2).toInt64)) + ((own_bi bt3).toInt64)), .second, .unset, .unset, .unset, .unset, .unset, .unset, .unset] []) (fun t' k => XS.lstore XK6.here hx rfl (hb hby at_293) rfl (l' := #[iv x0, jv x1, .second, iv x3, iv (own_bi bt0), iv (own_bi bt1), iv (own_bi bt2), iv (own_bi bt3), iv (own_bi bt4), iv (own_bi bt5), rv b1, rv b8, jv (0 : Int64), .second, jv ((0 : Int64) + ((own_bi bt0).toInt64)), .second, jv (((0 : Int64) + ((own_bi bt0).toInt64)) + ((own_bi bt1).toInt64)), .second, jv ((((0 : Int64) + ((own_bi bt0).toInt64)) + ((own_bi bt1).toInt64)) + ((own_bi bt2).toInt64)), .second, jv (((((0 : Int64) + ((own_bi bt0).toInt64)) + ((own_bi bt1).toInt64)) + ((own_bi bt2).toInt64)) + ((own_bi bt3).toInt64)), .second, .unset, .unset, .unset, .unset, .unset, .unset, .unset]) rfl k) ?_
                                  refine own_go (mkF m 297 #[iv x0, jv x1, .second, iv x3, iv (own_bi bt0), iv (own_bi bt1), iv (own_bi bt2), iv (own_bi bt3), iv (own_bi bt4), iv (own_bi bt5), rv b1, rv b8, jv (0 : Int64), .second, jv ((0 : Int64) + ((own_bi bt0).toInt64)), .second, jv (((0 : Int64) + ((own_bi bt0).toInt64)) + ((own_bi bt1).toInt64)), .second, jv ((((0 : Int64) + ((own_bi bt0).toInt64)) + ((own_bi bt1).toInt64)) + ((own_bi bt2).toInt64)), .second, jv (((((0 : Int64) + ((own_bi bt0).toInt64)) + ((own_bi bt1).toInt64)) + ((own_bi bt2).toInt64)) + ((own_bi bt3).toInt64)), .second, .unset, .unset, .unset, .unset, .unset, .unset, .unset] [(.long (((((0 : Int64) + ((own_bi bt0).toInt64)) + ((own_bi bt1).toInt64)) + ((own_bi bt2).toInt64)) + ((own_bi bt3).toInt64)))]) (fun t' k => XS.lload XK6.here hx rfl (hb hby at_295) rfl  k) ?_
                                  have JQ4 : ∀ (q4 : Int32), (q4 = own_bi bt4) → own_G p e below s (own_Q h0.size (fun v h => v = some (.int 1))) room_1.cells room_1.slots TK6 (mkF m 307 #[iv x0, jv x1, .second, iv x3, iv (own_bi bt0), iv (own_bi bt1), iv (own_bi bt2), iv (own_bi bt3), iv (own_bi bt4), iv (own_bi bt5), rv b1, rv b8, jv (0 : Int64), .second, jv ((0 : Int64) + ((own_bi bt0).toInt64)), .second, jv (((0 : Int64) + ((own_bi bt0).toInt64)) + ((own_bi bt1).toInt64)), .second, jv ((((0 : Int64) + ((own_bi bt0).toInt64)) + ((own_bi bt1).toInt64)) + ((own_bi bt2).toInt64)), .second, jv (((((0 : Int64) + ((own_bi bt0).toInt64)) + ((own_bi bt1).toInt64)) + ((own_bi bt2).toInt64)) + ((own_bi bt3).toInt64)), .second, .unset, .unset, .unset, .unset, .unset, .unset, .unset] [(.int q4), (.long (((((0 : Int64) + ((own_bi bt0).toInt64)) + ((own_bi bt1).toInt64)) + ((own_bi bt2).toInt64)) + ((own_bi bt3).toInt64)))]) := by
                                    intro q4 hJQ4
                                    subst hJQ4
                                    refine own_go (mkF m 308 #[iv x0, jv x1, .second, iv x3, iv (own_bi bt0), iv (own_bi bt1), iv (own_bi bt2), iv (own_bi bt3), iv (own_bi bt4), iv (own_bi bt5), rv b1, rv b8, jv (0 : Int64), .second, jv ((0 : Int64) + ((own_bi bt0).toInt64)), .second, jv (((0 : Int64) + ((own_bi bt0).toInt64)) + ((own_bi bt1).toInt64)), .second, jv ((((0 : Int64) + ((own_bi bt0).toInt64)) + ((own_bi bt1).toInt64)) + ((own_bi bt2).toInt64)), .second, jv (((((0 : Int64) + ((own_bi bt0).toInt64)) + ((own_bi bt1).toInt64)) + ((own_bi bt2).toInt64)) + ((own_bi bt3).toInt64)), .second, .unset, .unset, .unset, .unset, .unset, .unset, .unset] [(.long ((own_bi bt4).toInt64)), (.long (((((0 : Int64) + ((own_bi bt0).toInt64)) + ((own_bi bt1).toInt64)) + ((own_bi bt2).toInt64)) + ((own_bi bt3).toInt64)))]) (fun t' k => XS.i2l XK6.here hx rfl (hb hby at_307) rfl k) ?_
                                    refine own_go (mkF m 309 #[iv x0, jv x1, .second, iv x3, iv (own_bi bt0), iv (own_bi bt1), iv (own_bi bt2), iv (own_bi bt3), iv (own_bi bt4), iv (own_bi bt5), rv b1, rv b8, jv (0 : Int64), .second, jv ((0 : Int64) + ((own_bi bt0).toInt64)), .second, jv (((0 : Int64) + ((own_bi bt0).toInt64)) + ((own_bi bt1).toInt64)), .second, jv ((((0 : Int64) + ((own_bi bt0).toInt64)) + ((own_bi bt1).toInt64)) + ((own_bi bt2).toInt64)), .second, jv (((((0 : Int64) + ((own_bi bt0).toInt64)) + ((own_bi bt1).toInt64)) + ((own_bi bt2).toInt64)) + ((own_bi bt3).toInt64)), .second, .unset, .unset, .unset, .unset, .unset, .unset, .unset] [(.long ((((((0 : Int64) + ((own_bi bt0).toInt64)) + ((own_bi bt1).toInt64)) + ((own_bi bt2).toInt64)) + ((own_bi bt3).toInt64)) + ((own_bi bt4).toInt64)))]) (fun t' k => XS.ladd XK6.here hx rfl (hb hby at_308) rfl k) ?_
                                    refine own_go (mkF m 311 #[iv x0, jv x1, .second, iv x3, iv (own_bi bt0), iv (own_bi bt1), iv (own_bi bt2), iv (own_bi bt3), iv (own_bi bt4), iv (own_bi bt5), rv b1, rv b8, jv (0 : Int64), .second, jv ((0 : Int64) + ((own_bi bt0).toInt64)), .second, jv (((0 : Int64) + ((own_bi bt0).toInt64)) + ((own_bi bt1).toInt64)), .second, jv ((((0 : Int64) + ((own_bi bt0).toInt64)) + ((own_bi bt1).toInt64)) + ((own_bi bt2).toInt64)), .second, jv (((((0 : Int64) + ((own_bi bt0).toInt64)) + ((own_bi bt1).toInt64)) + ((own_bi bt2).toInt64)) + ((own_bi bt3).toInt64)), .second, jv ((((((0 : Int64) + ((own_bi bt0).toInt64)) + ((own_bi bt1).toInt64)) + ((own_bi bt2).toInt64)) + ((own_bi bt3).toInt64)) + ((own_bi bt4).toInt64)), .second, .unset, .unset, .unset, .unset, .unset] []) (fun t' k => XS.lstore XK6.here hx rfl (hb hby at_309) rfl (l' := #[iv x0, jv x1, .second, iv x3, iv (own_bi bt0), iv (own_bi bt1), iv (own_bi bt2), iv (own_bi bt3), iv (own_bi bt4), iv (own_bi bt5), rv b1, rv b8, jv (0 : Int64), .second, jv ((0 : Int64) + ((own_bi bt0).toInt64)), .second, jv (((0 : Int64) + ((own_bi bt0).toInt64)) + ((own_bi bt1).toInt64)), .second, jv ((((0 : Int64) + ((own_bi bt0).toInt64)) + ((own_bi bt1).toInt64)) + ((own_bi bt2).toInt64)), .second, jv (((((0 : Int64) + ((own_bi bt0).toInt64)) + ((own_bi bt1).toInt64)) + ((own_bi bt2).toInt64)) + ((own_bi bt3).toInt64)), .second, jv ((((((0 : Int64) + ((own_bi bt0).toInt64)) + ((own_bi bt1).toInt64)) + ((own_bi bt2).toInt64)) + ((own_bi bt3).toInt64)) + ((own_bi bt4).toInt64)), .second, .unset, .unset, .unset, .unset, .unset]) rfl k) ?_
                                    refine own_go (mkF m 313 #[iv x0, jv x1, .second, iv x3, iv (own_bi bt0), iv (own_bi bt1), iv (own_bi bt2), iv (own_bi bt3), iv (own_bi bt4), iv (own_bi bt5), rv b1, rv b8, jv (0 : Int64), .second, jv ((0 : Int64) + ((own_bi bt0).toInt64)), .second, jv (((0 : Int64) + ((own_bi bt0).toInt64)) + ((own_bi bt1).toInt64)), .second, jv ((((0 : Int64) + ((own_bi bt0).toInt64)) + ((own_bi bt1).toInt64)) + ((own_bi bt2).toInt64)), .second, jv (((((0 : Int64) + ((own_bi bt0).toInt64)) + ((own_bi bt1).toInt64)) + ((own_bi bt2).toInt64)) + ((own_bi bt3).toInt64)), .second, jv ((((((0 : Int64) + ((own_bi bt0).toInt64)) + ((own_bi bt1).toInt64)) + ((own_bi bt2).toInt64)) + ((own_bi bt3).toInt64)) + ((own_bi bt4).toInt64)), .second, .unset, .unset, .unset, .unset, .unset] [(.long ((((((0 : Int64) + ((own_bi bt0).toInt64)) + ((own_bi bt1).toInt64)) + ((own_bi bt2).toInt64)) + ((own_bi bt3).toInt64)) + ((own_bi bt4).toInt64)))]) (fun t' k => XS.lload XK6.here hx rfl (hb hby at_311) rfl  k) ?_
                                    have JQ5 : ∀ (q5 : Int32), (q5 = own_bi bt5) → own_G p e below s (own_Q h0.size (fun v h => v = some (.int 1))) room_1.cells room_1.slots TK6 (mkF m 323 #[iv x0, jv x1, .second, iv x3, iv (own_bi bt0), iv (own_bi bt1), iv (own_bi bt2), iv (own_bi bt3), iv (own_bi bt4), iv (own_bi bt5), rv b1, rv b8, jv (0 : Int64), .second, jv ((0 : Int64) + ((own_bi bt0).toInt64)), .second, jv (((0 : Int64) + ((own_bi bt0).toInt64)) + ((own_bi bt1).toInt64)), .second, jv ((((0 : Int64) + ((own_bi bt0).toInt64)) + ((own_bi bt1).toInt64)) + ((own_bi bt2).toInt64)), .second, jv (((((0 : Int64) + ((own_bi bt0).toInt64)) + ((own_bi bt1).toInt64)) + ((own_bi bt2).toInt64)) + ((own_bi bt3).toInt64)), .second, jv ((((((0 : Int64) + ((own_bi bt0).toInt64)) + ((own_bi bt1).toInt64)) + ((own_bi bt2).toInt64)) + ((own_bi bt3).toInt64)) + ((own_bi bt4).toInt64)), .second, .unset, .unset, .unset, .unset, .unset] [(.int q5), (.long ((((((0 : Int64) + ((own_bi bt0).toInt64)) + ((own_bi bt1).toInt64)) + ((own_bi bt2).toInt64)) + ((own_bi bt3).toInt64)) + ((own_bi bt4).toInt64)))]) := by
                                      intro q5 hJQ5
                                      subst hJQ5
                                      refine own_go (mkF m 324 #[iv x0, jv x1, .second, iv x3, iv (own_bi bt0), iv (own_bi bt1), iv (own_bi bt2), iv (own_bi bt3), iv (own_bi bt4), iv (own_bi bt5), rv b1, rv b8, jv (0 : Int64), .second, jv ((0 : Int64) + ((own_bi bt0).toInt64)), .second, jv (((0 : Int64) + ((own_bi bt0).toInt64)) + ((own_bi bt1).toInt64)), .second, jv ((((0 : Int64) + ((own_bi bt0).toInt64)) + ((own_bi bt1).toInt64)) + ((own_bi bt2).toInt64)), .second, jv (((((0 : Int64) + ((own_bi bt0).toInt64)) + ((own_bi bt1).toInt64)) + ((own_bi bt2).toInt64)) + ((own_bi bt3).toInt64)), .second, jv ((((((0 : Int64) + ((own_bi bt0).toInt64)) + ((own_bi bt1).toInt64)) + ((own_bi bt2).toInt64)) + ((own_bi bt3).toInt64)) + ((own_bi bt4).toInt64)), .second, .unset, .unset, .unset, .unset, .unset] [(.long ((own_bi bt5).toInt64)), (.long ((((((0 : Int64) + ((own_bi bt0).toInt64)) + ((own_bi bt1).toInt64)) + ((own_bi bt2).toInt64)) + ((own_bi bt3).toInt64)) + ((own_bi bt4).toInt64)))]) (fun t' k => XS.i2l XK6.here hx rfl (hb hby at_323) rfl k) ?_
                                      refine own_go (mkF m 325 #[iv x0, jv x1, .second, iv x3, iv (own_bi bt0), iv (own_bi bt1), iv (own_bi bt2), iv (own_bi bt3), iv (own_bi bt4), iv (own_bi bt5), rv b1, rv b8, jv (0 : Int64), .second, jv ((0 : Int64) + ((own_bi bt0).toInt64)), .second, jv (((0 : Int64) + ((own_bi bt0).toInt64)) + ((own_bi bt1).toInt64)), .second, jv ((((0 : Int64) + ((own_bi bt0).toInt64)) + ((own_bi bt1).toInt64)) + ((own_bi bt2).toInt64)), .second, jv (((((0 : Int64) + ((own_bi bt0).toInt64)) + ((own_bi bt1).toInt64)) + ((own_bi bt2).toInt64)) + ((own_bi bt3).toInt64)), .second, jv ((((((0 : Int64) + ((own_bi bt0).toInt64)) + ((own_bi bt1).toInt64)) + ((own_bi bt2).toInt64)) + ((own_bi bt3).toInt64)) + ((own_bi bt4).toInt64)), .second, .unset, .unset, .unset, .unset, .unset] [(.long (((((((0 : Int64) + ((own_bi bt0).toInt64)) + ((own_bi bt1).toInt64)) + ((own_bi bt2).toInt64)) + ((own_bi bt3).toInt64)) + ((own_bi bt4).toInt64)) + ((own_bi bt5).toInt64)))]) (fun t' k => XS.ladd XK6.here hx rfl (hb hby at_324) rfl k) ?_
                                      refine own_go (mkF m 327 #[iv x0, jv x1, .second, iv x3, iv (own_bi bt0), iv (own_bi bt1), iv (own_bi bt2), iv (own_bi bt3), iv (own_bi bt4), iv (own_bi bt5), rv b1, rv b8, jv (0 : Int64), .second, jv ((0 : Int64) + ((own_bi bt0).toInt64)), .second, jv (((0 : Int64) + ((own_bi bt0).toInt64)) + ((own_bi bt1).toInt64)), .second, jv ((((0 : Int64) + ((own_bi bt0).toInt64)) + ((own_bi bt1).toInt64)) + ((own_bi bt2).toInt64)), .second, jv (((((0 : Int64) + ((own_bi bt0).toInt64)) + ((own_bi bt1).toInt64)) + ((own_bi bt2).toInt64)) + ((own_bi bt3).toInt64)), .second, jv ((((((0 : Int64) + ((own_bi bt0).toInt64)) + ((own_bi bt1).toInt64)) + ((own_bi bt2).toInt64)) + ((own_bi bt3).toInt64)) + ((own_bi bt4).toInt64)), .second, jv (((((((0 : Int64) + ((own_bi bt0).toInt64)) + ((own_bi bt1).toInt64)) + ((own_bi bt2).toInt64)) + ((own_bi bt3).toInt64)) + ((own_bi bt4).toInt64)) + ((own_bi bt5).toInt64)), .second, .unset, .unset, .unset] []) (fun t' k => XS.lstore XK6.here hx rfl (hb hby at_325) rfl (l' := #[iv x0, jv x1, .second, iv x3, iv (own_bi bt0), iv (own_bi bt1), iv (own_bi bt2), iv (own_bi bt3), iv (own_bi bt4), iv (own_bi bt5), rv b1, rv b8, jv (0 : Int64), .second, jv ((0 : Int64) + ((own_bi bt0).toInt64)), .second, jv (((0 : Int64) + ((own_bi bt0).toInt64)) + ((own_bi bt1).toInt64)), .second, jv ((((0 : Int64) + ((own_bi bt0).toInt64)) + ((own_bi bt1).toInt64)) + ((own_bi bt2).toInt64)), .second, jv (((((0 : Int64) + ((own_bi bt0).toInt64)) + ((own_bi bt1).toInt64)) + ((own_bi bt2).toInt64)) + ((own_bi bt3).toInt64)), .second, jv ((((((0 : Int64) + ((own_bi bt0).toInt64)) + ((own_bi bt1).toInt64)) + ((own_bi bt2).toInt64)) + ((own_bi bt3).toInt64)) + ((own_bi bt4).toInt64)), .second, jv (((((((0 : Int64) + ((own_bi bt0).toInt64)) + ((own_bi bt1).toInt64)) + ((own_bi bt2).toInt64)) + ((own_bi bt3).toInt64)) + ((own_bi bt4).toInt64)) + ((own_bi bt5).toInt64)), .second, .unset, .unset, .unset]) rfl k) ?_
                                      refine own_go (mkF m 329 #[iv x0, jv x1, .second, iv x3, iv (own_bi bt0), iv (own_bi bt1), iv (own_bi bt2), iv (own_bi bt3), iv (own_bi bt4), iv (own_bi bt5), rv b1, rv b8, jv (0 : Int64), .second, jv ((0 : Int64) + ((own_bi bt0).toInt64)), .second, jv (((0 : Int64) + ((own_bi bt0).toInt64)) + ((own_bi bt1).toInt64)), .second, jv ((((0 : Int64) + ((own_bi bt0).toInt64)) + ((own_bi bt1).toInt64)) + ((own_bi bt2).toInt64)), .second, jv (((((0 : Int64) + ((own_bi bt0).toInt64)) + ((own_bi bt1).toInt64)) + ((own_bi bt2).toInt64)) + ((own_bi bt3).toInt64)), .second, jv ((((((0 : Int64) + ((own_bi bt0).toInt64)) + ((own_bi bt1).toInt64)) + ((own_bi bt2).toInt64)) + ((own_bi bt3).toInt64)) + ((own_bi bt4).toInt64)), .second, jv (((((((0 : Int64) + ((own_bi bt0).toInt64)) + ((own_bi bt1).toInt64)) + ((own_bi bt2).toInt64)) + ((own_bi bt3).toInt64)) + ((own_bi bt4).toInt64)) + ((own_bi bt5).toInt64)), .second, .unset, .unset, .unset] [(.long (((((((0 : Int64) + ((own_bi bt0).toInt64)) + ((own_bi bt1).toInt64)) + ((own_bi bt2).toInt64)) + ((own_bi bt3).toInt64)) + ((own_bi bt4).toInt64)) + ((own_bi bt5).toInt64)))]) (fun t' k => XS.lload XK6.here hx rfl (hb hby at_327) rfl  k) ?_
                                      refine own_go (mkF m 330 #[iv x0, jv x1, .second, iv x3, iv (own_bi bt0), iv (own_bi bt1), iv (own_bi bt2), iv (own_bi bt3), iv (own_bi bt4), iv (own_bi bt5), rv b1, rv b8, jv (0 : Int64), .second, jv ((0 : Int64) + ((own_bi bt0).toInt64)), .second, jv (((0 : Int64) + ((own_bi bt0).toInt64)) + ((own_bi bt1).toInt64)), .second, jv ((((0 : Int64) + ((own_bi bt0).toInt64)) + ((own_bi bt1).toInt64)) + ((own_bi bt2).toInt64)), .second, jv (((((0 : Int64) + ((own_bi bt0).toInt64)) + ((own_bi bt1).toInt64)) + ((own_bi bt2).toInt64)) + ((own_bi bt3).toInt64)), .second, jv ((((((0 : Int64) + ((own_bi bt0).toInt64)) + ((own_bi bt1).toInt64)) + ((own_bi bt2).toInt64)) + ((own_bi bt3).toInt64)) + ((own_bi bt4).toInt64)), .second, jv (((((((0 : Int64) + ((own_bi bt0).toInt64)) + ((own_bi bt1).toInt64)) + ((own_bi bt2).toInt64)) + ((own_bi bt3).toInt64)) + ((own_bi bt4).toInt64)) + ((own_bi bt5).toInt64)), .second, .unset, .unset, .unset] [(.long (0 : Int64)), (.long (((((((0 : Int64) + ((own_bi bt0).toInt64)) + ((own_bi bt1).toInt64)) + ((own_bi bt2).toInt64)) + ((own_bi bt3).toInt64)) + ((own_bi bt4).toInt64)) + ((own_bi bt5).toInt64)))]) (fun t' k => XS.lconst XK6.here hx rfl (hb hby at_329) k) ?_
                                      refine own_go (mkF m 331 #[iv x0, jv x1, .second, iv x3, iv (own_bi bt0), iv (own_bi bt1), iv (own_bi bt2), iv (own_bi bt3), iv (own_bi bt4), iv (own_bi bt5), rv b1, rv b8, jv (0 : Int64), .second, jv ((0 : Int64) + ((own_bi bt0).toInt64)), .second, jv (((0 : Int64) + ((own_bi bt0).toInt64)) + ((own_bi bt1).toInt64)), .second, jv ((((0 : Int64) + ((own_bi bt0).toInt64)) + ((own_bi bt1).toInt64)) + ((own_bi bt2).toInt64)), .second, jv (((((0 : Int64) + ((own_bi bt0).toInt64)) + ((own_bi bt1).toInt64)) + ((own_bi bt2).toInt64)) + ((own_bi bt3).toInt64)), .second, jv ((((((0 : Int64) + ((own_bi bt0).toInt64)) + ((own_bi bt1).toInt64)) + ((own_bi bt2).toInt64)) + ((own_bi bt3).toInt64)) + ((own_bi bt4).toInt64)), .second, jv (((((((0 : Int64) + ((own_bi bt0).toInt64)) + ((own_bi bt1).toInt64)) + ((own_bi bt2).toInt64)) + ((own_bi bt3).toInt64)) + ((own_bi bt4).toInt64)) + ((own_bi bt5).toInt64)), .second, .unset, .unset, .unset] [(.int (lcmpW (((((((0 : Int64) + ((own_bi bt0).toInt64)) + ((own_bi bt1).toInt64)) + ((own_bi bt2).toInt64)) + ((own_bi bt3).toInt64)) + ((own_bi bt4).toInt64)) + ((own_bi bt5).toInt64)) (0 : Int64)))]) (fun t' k => XS.lcmp XK6.here hx rfl (hb hby at_330) rfl k) ?_
                                      by_cases hc331 : (((((((0 : Int64) + ((own_bi bt0).toInt64)) + ((own_bi bt1).toInt64)) + ((own_bi bt2).toInt64)) + ((own_bi bt3).toInt64)) + ((own_bi bt4).toInt64)) + ((own_bi bt5).toInt64)) = (0 : Int64)
                                      · skip
                                        refine own_go (mkF m 334 #[iv x0, jv x1, .second, iv x3, iv (own_bi bt0), iv (own_bi bt1), iv (own_bi bt2), iv (own_bi bt3), iv (own_bi bt4), iv (own_bi bt5), rv b1, rv b8, jv (0 : Int64), .second, jv ((0 : Int64) + ((own_bi bt0).toInt64)), .second, jv (((0 : Int64) + ((own_bi bt0).toInt64)) + ((own_bi bt1).toInt64)), .second, jv ((((0 : Int64) + ((own_bi bt0).toInt64)) + ((own_bi bt1).toInt64)) + ((own_bi bt2).toInt64)), .second, jv (((((0 : Int64) + ((own_bi bt0).toInt64)) + ((own_bi bt1).toInt64)) + ((own_bi bt2).toInt64)) + ((own_bi bt3).toInt64)), .second, jv ((((((0 : Int64) + ((own_bi bt0).toInt64)) + ((own_bi bt1).toInt64)) + ((own_bi bt2).toInt64)) + ((own_bi bt3).toInt64)) + ((own_bi bt4).toInt64)), .second, jv (((((((0 : Int64) + ((own_bi bt0).toInt64)) + ((own_bi bt1).toInt64)) + ((own_bi bt2).toInt64)) + ((own_bi bt3).toInt64)) + ((own_bi bt4).toInt64)) + ((own_bi bt5).toInt64)), .second, .unset, .unset, .unset] []) (fun t' k => XS.ifNo XK6.here hx rfl (hb hby at_331) rfl ((if0 _ _).trans (teq ((lw_eq (((((((0 : Int64) + ((own_bi bt0).toInt64)) + ((own_bi bt1).toInt64)) + ((own_bi bt2).toInt64)) + ((own_bi bt3).toInt64)) + ((own_bi bt4).toInt64)) + ((own_bi bt5).toInt64)) (0 : Int64)).mpr hc331)).2) k) ?_
                                        refine own_go (mkF m 335 #[iv x0, jv x1, .second, iv x3, iv (own_bi bt0), iv (own_bi bt1), iv (own_bi bt2), iv (own_bi bt3), iv (own_bi bt4), iv (own_bi bt5), rv b1, rv b8, jv (0 : Int64), .second, jv ((0 : Int64) + ((own_bi bt0).toInt64)), .second, jv (((0 : Int64) + ((own_bi bt0).toInt64)) + ((own_bi bt1).toInt64)), .second, jv ((((0 : Int64) + ((own_bi bt0).toInt64)) + ((own_bi bt1).toInt64)) + ((own_bi bt2).toInt64)), .second, jv (((((0 : Int64) + ((own_bi bt0).toInt64)) + ((own_bi bt1).toInt64)) + ((own_bi bt2).toInt64)) + ((own_bi bt3).toInt64)), .second, jv ((((((0 : Int64) + ((own_bi bt0).toInt64)) + ((own_bi bt1).toInt64)) + ((own_bi bt2).toInt64)) + ((own_bi bt3).toInt64)) + ((own_bi bt4).toInt64)), .second, jv (((((((0 : Int64) + ((own_bi bt0).toInt64)) + ((own_bi bt1).toInt64)) + ((own_bi bt2).toInt64)) + ((own_bi bt3).toInt64)) + ((own_bi bt4).toInt64)) + ((own_bi bt5).toInt64)), .second, .unset, .unset, .unset] [(.int (1 : Int32))]) (fun t' k => XS.iconst XK6.here hx rfl (hb hby at_334) k) ?_
                                        refine XK6.retZ hx hlk hret (hb hby at_335) ?_ (by decide) (by decide)
                                        exact rfl
                                      · skip
                                        refine own_go (mkF m 336 #[iv x0, jv x1, .second, iv x3, iv (own_bi bt0), iv (own_bi bt1), iv (own_bi bt2), iv (own_bi bt3), iv (own_bi bt4), iv (own_bi bt5), rv b1, rv b8, jv (0 : Int64), .second, jv ((0 : Int64) + ((own_bi bt0).toInt64)), .second, jv (((0 : Int64) + ((own_bi bt0).toInt64)) + ((own_bi bt1).toInt64)), .second, jv ((((0 : Int64) + ((own_bi bt0).toInt64)) + ((own_bi bt1).toInt64)) + ((own_bi bt2).toInt64)), .second, jv (((((0 : Int64) + ((own_bi bt0).toInt64)) + ((own_bi bt1).toInt64)) + ((own_bi bt2).toInt64)) + ((own_bi bt3).toInt64)), .second, jv ((((((0 : Int64) + ((own_bi bt0).toInt64)) + ((own_bi bt1).toInt64)) + ((own_bi bt2).toInt64)) + ((own_bi bt3).toInt64)) + ((own_bi bt4).toInt64)), .second, jv (((((((0 : Int64) + ((own_bi bt0).toInt64)) + ((own_bi bt1).toInt64)) + ((own_bi bt2).toInt64)) + ((own_bi bt3).toInt64)) + ((own_bi bt4).toInt64)) + ((own_bi bt5).toInt64)), .second, .unset, .unset, .unset] []) (fun t' k => XS.ifYes XK6.here hx rfl (pc0 := 331) (pc' := 336) rfl (hb hby at_331) rfl ((if0 _ _).trans (feq (fun q => hc331 ((lw_eq (((((((0 : Int64) + ((own_bi bt0).toInt64)) + ((own_bi bt1).toInt64)) + ((own_bi bt2).toInt64)) + ((own_bi bt3).toInt64)) + ((own_bi bt4).toInt64)) + ((own_bi bt5).toInt64)) (0 : Int64)).mp q))).2) (by decide) (by decide) k) ?_
                                        refine own_go (mkF m 337 #[iv x0, jv x1, .second, iv x3, iv (own_bi bt0), iv (own_bi bt1), iv (own_bi bt2), iv (own_bi bt3), iv (own_bi bt4), iv (own_bi bt5), rv b1, rv b8, jv (0 : Int64), .second, jv ((0 : Int64) + ((own_bi bt0).toInt64)), .second, jv (((0 : Int64) + ((own_bi bt0).toInt64)) + ((own_bi bt1).toInt64)), .second, jv ((((0 : Int64) + ((own_bi bt0).toInt64)) + ((own_bi bt1).toInt64)) + ((own_bi bt2).toInt64)), .second, jv (((((0 : Int64) + ((own_bi bt0).toInt64)) + ((own_bi bt1).toInt64)) + ((own_bi bt2).toInt64)) + ((own_bi bt3).toInt64)), .second, jv ((((((0 : Int64) + ((own_bi bt0).toInt64)) + ((own_bi bt1).toInt64)) + ((own_bi bt2).toInt64)) + ((own_bi bt3).toInt64)) + ((own_bi bt4).toInt64)), .second, jv (((((((0 : Int64) + ((own_bi bt0).toInt64)) + ((own_bi bt1).toInt64)) + ((own_bi bt2).toInt64)) + ((own_bi bt3).toInt64)) + ((own_bi bt4).toInt64)) + ((own_bi bt5).toInt64)), .second, .unset, .unset, .unset] [(.long x1)]) (fun t' k => XS.lloadN XK6.here hx rfl (hb hby at_336) rfl  k) ?_
                                        refine own_go (mkF m 340 #[iv x0, jv x1, .second, iv x3, iv (own_bi bt0), iv (own_bi bt1), iv (own_bi bt2), iv (own_bi bt3), iv (own_bi bt4), iv (own_bi bt5), rv b1, rv b8, jv (0 : Int64), .second, jv ((0 : Int64) + ((own_bi bt0).toInt64)), .second, jv (((0 : Int64) + ((own_bi bt0).toInt64)) + ((own_bi bt1).toInt64)), .second, jv ((((0 : Int64) + ((own_bi bt0).toInt64)) + ((own_bi bt1).toInt64)) + ((own_bi bt2).toInt64)), .second, jv (((((0 : Int64) + ((own_bi bt0).toInt64)) + ((own_bi bt1).toInt64)) + ((own_bi bt2).toInt64)) + ((own_bi bt3).toInt64)), .second, jv ((((((0 : Int64) + ((own_bi bt0).toInt64)) + ((own_bi bt1).toInt64)) + ((own_bi bt2).toInt64)) + ((own_bi bt3).toInt64)) + ((own_bi bt4).toInt64)), .second, jv (((((((0 : Int64) + ((own_bi bt0).toInt64)) + ((own_bi bt1).toInt64)) + ((own_bi bt2).toInt64)) + ((own_bi bt3).toInt64)) + ((own_bi bt4).toInt64)) + ((own_bi bt5).toInt64)), .second, .unset, .unset, .unset] [(.long (9223372036854775807 : Int64)), (.long x1)]) (fun t' k => XK6.ldc2Long hx hown (mvT hZ (hw _ (List.mem_of_getElem? (i := 38) rfl))) (g := (mkF m 337 #[iv x0, jv x1, .second, iv x3, iv (own_bi bt0), iv (own_bi bt1), iv (own_bi bt2), iv (own_bi bt3), iv (own_bi bt4), iv (own_bi bt5), rv b1, rv b8, jv (0 : Int64), .second, jv ((0 : Int64) + ((own_bi bt0).toInt64)), .second, jv (((0 : Int64) + ((own_bi bt0).toInt64)) + ((own_bi bt1).toInt64)), .second, jv ((((0 : Int64) + ((own_bi bt0).toInt64)) + ((own_bi bt1).toInt64)) + ((own_bi bt2).toInt64)), .second, jv (((((0 : Int64) + ((own_bi bt0).toInt64)) + ((own_bi bt1).toInt64)) + ((own_bi bt2).toInt64)) + ((own_bi bt3).toInt64)), .second, jv ((((((0 : Int64) + ((own_bi bt0).toInt64)) + ((own_bi bt1).toInt64)) + ((own_bi bt2).toInt64)) + ((own_bi bt3).toInt64)) + ((own_bi bt4).toInt64)), .second, jv (((((((0 : Int64) + ((own_bi bt0).toInt64)) + ((own_bi bt1).toInt64)) + ((own_bi bt2).toInt64)) + ((own_bi bt3).toInt64)) + ((own_bi bt4).toInt64)) + ((own_bi bt5).toInt64)), .second, .unset, .unset, .unset] [(.long x1)])) rfl (hb hby at_337) _ k) ?_
                                        refine own_go (mkF m 341 #[iv x0, jv x1, .second, iv x3, iv (own_bi bt0), iv (own_bi bt1), iv (own_bi bt2), iv (own_bi bt3), iv (own_bi bt4), iv (own_bi bt5), rv b1, rv b8, jv (0 : Int64), .second, jv ((0 : Int64) + ((own_bi bt0).toInt64)), .second, jv (((0 : Int64) + ((own_bi bt0).toInt64)) + ((own_bi bt1).toInt64)), .second, jv ((((0 : Int64) + ((own_bi bt0).toInt64)) + ((own_bi bt1).toInt64)) + ((own_bi bt2).toInt64)), .second, jv (((((0 : Int64) + ((own_bi bt0).toInt64)) + ((own_bi bt1).toInt64)) + ((own_bi bt2).toInt64)) + ((own_bi bt3).toInt64)), .second, jv ((((((0 : Int64) + ((own_bi bt0).toInt64)) + ((own_bi bt1).toInt64)) + ((own_bi bt2).toInt64)) + ((own_bi bt3).toInt64)) + ((own_bi bt4).toInt64)), .second, jv (((((((0 : Int64) + ((own_bi bt0).toInt64)) + ((own_bi bt1).toInt64)) + ((own_bi bt2).toInt64)) + ((own_bi bt3).toInt64)) + ((own_bi bt4).toInt64)) + ((own_bi bt5).toInt64)), .second, .unset, .unset, .unset] [(.long (x1 &&& (9223372036854775807 : Int64)))]) (fun t' k => XS.land XK6.here hx rfl (hb hby at_340) rfl k) ?_
                                        refine own_go (mkF m 343 #[iv x0, jv x1, .second, iv x3, iv (own_bi bt0), iv (own_bi bt1), iv (own_bi bt2), iv (own_bi bt3), iv (own_bi bt4), iv (own_bi bt5), rv b1, rv b8, jv (0 : Int64), .second, jv ((0 : Int64) + ((own_bi bt0).toInt64)), .second, jv (((0 : Int64) + ((own_bi bt0).toInt64)) + ((own_bi bt1).toInt64)), .second, jv ((((0 : Int64) + ((own_bi bt0).toInt64)) + ((own_bi bt1).toInt64)) + ((own_bi bt2).toInt64)), .second, jv (((((0 : Int64) + ((own_bi bt0).toInt64)) + ((own_bi bt1).toInt64)) + ((own_bi bt2).toInt64)) + ((own_bi bt3).toInt64)), .second, jv ((((((0 : Int64) + ((own_bi bt0).toInt64)) + ((own_bi bt1).toInt64)) + ((own_bi bt2).toInt64)) + ((own_bi bt3).toInt64)) + ((own_bi bt4).toInt64)), .second, jv (((((((0 : Int64) + ((own_bi bt0).toInt64)) + ((own_bi bt1).toInt64)) + ((own_bi bt2).toInt64)) + ((own_bi bt3).toInt64)) + ((own_bi bt4).toInt64)) + ((own_bi bt5).toInt64)), .second, .unset, .unset, .unset] [(.long (((((((0 : Int64) + ((own_bi bt0).toInt64)) + ((own_bi bt1).toInt64)) + ((own_bi bt2).toInt64)) + ((own_bi bt3).toInt64)) + ((own_bi bt4).toInt64)) + ((own_bi bt5).toInt64))), (.long (x1 &&& (9223372036854775807 : Int64)))]) (fun t' k => XS.lload XK6.here hx rfl (hb hby at_341) rfl  k) ?_
                                        refine own_go (mkF m 344 #[iv x0, jv x1, .second, iv x3, iv (own_bi bt0), iv (own_bi bt1), iv (own_bi bt2), iv (own_bi bt3), iv (own_bi bt4), iv (own_bi bt5), rv b1, rv b8, jv (0 : Int64), .second, jv ((0 : Int64) + ((own_bi bt0).toInt64)), .second, jv (((0 : Int64) + ((own_bi bt0).toInt64)) + ((own_bi bt1).toInt64)), .second, jv ((((0 : Int64) + ((own_bi bt0).toInt64)) + ((own_bi bt1).toInt64)) + ((own_bi bt2).toInt64)), .second, jv (((((0 : Int64) + ((own_bi bt0).toInt64)) + ((own_bi bt1).toInt64)) + ((own_bi bt2).toInt64)) + ((own_bi bt3).toInt64)), .second, jv ((((((0 : Int64) + ((own_bi bt0).toInt64)) + ((own_bi bt1).toInt64)) + ((own_bi bt2).toInt64)) + ((own_bi bt3).toInt64)) + ((own_bi bt4).toInt64)), .second, jv (((((((0 : Int64) + ((own_bi bt0).toInt64)) + ((own_bi bt1).toInt64)) + ((own_bi bt2).toInt64)) + ((own_bi bt3).toInt64)) + ((own_bi bt4).toInt64)) + ((own_bi bt5).toInt64)), .second, .unset, .unset, .unset] [(.long ((x1 &&& (9223372036854775807 : Int64)) - ((x1 &&& (9223372036854775807 : Int64)) / (((((((0 : Int64) + ((own_bi bt0).toInt64)) + ((own_bi bt1).toInt64)) + ((own_bi bt2).toInt64)) + ((own_bi bt3).toInt64)) + ((own_bi bt4).toInt64)) + ((own_bi bt5).toInt64))) * (((((((0 : Int64) + ((own_bi bt0).toInt64)) + ((own_bi bt1).toInt64)) + ((own_bi bt2).toInt64)) + ((own_bi bt3).toInt64)) + ((own_bi bt4).toInt64)) + ((own_bi bt5).toInt64))))]) (fun t' k => XS.lrem XK6.here hx rfl (hb hby at_343) rfl hc331 k) ?_
                                        obtain ⟨kk, hkk, hkl⟩ := own_kk (x := x1) (b0 := bt0) (b1 := bt1) (b2 := bt2) (b3 := bt3) (b4 := bt4) (b5 := bt5) hc331
                                        rw [show ((x1 &&& (9223372036854775807 : Int64)) - ((x1 &&& (9223372036854775807 : Int64)) / (((((((0 : Int64) + ((own_bi bt0).toInt64)) + ((own_bi bt1).toInt64)) + ((own_bi bt2).toInt64)) + ((own_bi bt3).toInt64)) + ((own_bi bt4).toInt64)) + ((own_bi bt5).toInt64))) * (((((((0 : Int64) + ((own_bi bt0).toInt64)) + ((own_bi bt1).toInt64)) + ((own_bi bt2).toInt64)) + ((own_bi bt3).toInt64)) + ((own_bi bt4).toInt64)) + ((own_bi bt5).toInt64))) = Int64.ofNat kk.val from hkk]
                                        refine own_go (mkF m 346 #[iv x0, jv x1, .second, iv x3, iv (own_bi bt0), iv (own_bi bt1), iv (own_bi bt2), iv (own_bi bt3), iv (own_bi bt4), iv (own_bi bt5), rv b1, rv b8, jv (0 : Int64), .second, jv ((0 : Int64) + ((own_bi bt0).toInt64)), .second, jv (((0 : Int64) + ((own_bi bt0).toInt64)) + ((own_bi bt1).toInt64)), .second, jv ((((0 : Int64) + ((own_bi bt0).toInt64)) + ((own_bi bt1).toInt64)) + ((own_bi bt2).toInt64)), .second, jv (((((0 : Int64) + ((own_bi bt0).toInt64)) + ((own_bi bt1).toInt64)) + ((own_bi bt2).toInt64)) + ((own_bi bt3).toInt64)), .second, jv ((((((0 : Int64) + ((own_bi bt0).toInt64)) + ((own_bi bt1).toInt64)) + ((own_bi bt2).toInt64)) + ((own_bi bt3).toInt64)) + ((own_bi bt4).toInt64)), .second, jv (((((((0 : Int64) + ((own_bi bt0).toInt64)) + ((own_bi bt1).toInt64)) + ((own_bi bt2).toInt64)) + ((own_bi bt3).toInt64)) + ((own_bi bt4).toInt64)) + ((own_bi bt5).toInt64)), .second, jv (Int64.ofNat kk.val), .second, .unset] []) (fun t' k => XS.lstore XK6.here hx rfl (hb hby at_344) rfl (l' := #[iv x0, jv x1, .second, iv x3, iv (own_bi bt0), iv (own_bi bt1), iv (own_bi bt2), iv (own_bi bt3), iv (own_bi bt4), iv (own_bi bt5), rv b1, rv b8, jv (0 : Int64), .second, jv ((0 : Int64) + ((own_bi bt0).toInt64)), .second, jv (((0 : Int64) + ((own_bi bt0).toInt64)) + ((own_bi bt1).toInt64)), .second, jv ((((0 : Int64) + ((own_bi bt0).toInt64)) + ((own_bi bt1).toInt64)) + ((own_bi bt2).toInt64)), .second, jv (((((0 : Int64) + ((own_bi bt0).toInt64)) + ((own_bi bt1).toInt64)) + ((own_bi bt2).toInt64)) + ((own_bi bt3).toInt64)), .second, jv ((((((0 : Int64) + ((own_bi bt0).toInt64)) + ((own_bi bt1).toInt64)) + ((own_bi bt2).toInt64)) + ((own_bi bt3).toInt64)) + ((own_bi bt4).toInt64)), .second, jv (((((((0 : Int64) + ((own_bi bt0).toInt64)) + ((own_bi bt1).toInt64)) + ((own_bi bt2).toInt64)) + ((own_bi bt3).toInt64)) + ((own_bi bt4).toInt64)) + ((own_bi bt5).toInt64)), .second, jv (Int64.ofNat kk.val), .second, .unset]) rfl k) ?_
                                        refine own_go (mkF m 347 #[iv x0, jv x1, .second, iv x3, iv (own_bi bt0), iv (own_bi bt1), iv (own_bi bt2), iv (own_bi bt3), iv (own_bi bt4), iv (own_bi bt5), rv b1, rv b8, jv (0 : Int64), .second, jv ((0 : Int64) + ((own_bi bt0).toInt64)), .second, jv (((0 : Int64) + ((own_bi bt0).toInt64)) + ((own_bi bt1).toInt64)), .second, jv ((((0 : Int64) + ((own_bi bt0).toInt64)) + ((own_bi bt1).toInt64)) + ((own_bi bt2).toInt64)), .second, jv (((((0 : Int64) + ((own_bi bt0).toInt64)) + ((own_bi bt1).toInt64)) + ((own_bi bt2).toInt64)) + ((own_bi bt3).toInt64)), .second, jv ((((((0 : Int64) + ((own_bi bt0).toInt64)) + ((own_bi bt1).toInt64)) + ((own_bi bt2).toInt64)) + ((own_bi bt3).toInt64)) + ((own_bi bt4).toInt64)), .second, jv (((((((0 : Int64) + ((own_bi bt0).toInt64)) + ((own_bi bt1).toInt64)) + ((own_bi bt2).toInt64)) + ((own_bi bt3).toInt64)) + ((own_bi bt4).toInt64)) + ((own_bi bt5).toInt64)), .second, jv (Int64.ofNat kk.val), .second, .unset] [(.int (-1 : Int32))]) (fun t' k => XS.iconst XK6.here hx rfl (hb hby at_346) k) ?_
                                        refine own_go (mkF m 349 #[iv x0, jv x1, .second, iv x3, iv (own_bi bt0), iv (own_bi bt1), iv (own_bi bt2), iv (own_bi bt3), iv (own_bi bt4), iv (own_bi bt5), rv b1, rv b8, jv (0 : Int64), .second, jv ((0 : Int64) + ((own_bi bt0).toInt64)), .second, jv (((0 : Int64) + ((own_bi bt0).toInt64)) + ((own_bi bt1).toInt64)), .second, jv ((((0 : Int64) + ((own_bi bt0).toInt64)) + ((own_bi bt1).toInt64)) + ((own_bi bt2).toInt64)), .second, jv (((((0 : Int64) + ((own_bi bt0).toInt64)) + ((own_bi bt1).toInt64)) + ((own_bi bt2).toInt64)) + ((own_bi bt3).toInt64)), .second, jv ((((((0 : Int64) + ((own_bi bt0).toInt64)) + ((own_bi bt1).toInt64)) + ((own_bi bt2).toInt64)) + ((own_bi bt3).toInt64)) + ((own_bi bt4).toInt64)), .second, jv (((((((0 : Int64) + ((own_bi bt0).toInt64)) + ((own_bi bt1).toInt64)) + ((own_bi bt2).toInt64)) + ((own_bi bt3).toInt64)) + ((own_bi bt4).toInt64)) + ((own_bi bt5).toInt64)), .second, jv (Int64.ofNat kk.val), .second, iv (-1 : Int32)] []) (fun t' k => XS.istore XK6.here hx rfl (hb hby at_347) rfl (l' := #[iv x0, jv x1, .second, iv x3, iv (own_bi bt0), iv (own_bi bt1), iv (own_bi bt2), iv (own_bi bt3), iv (own_bi bt4), iv (own_bi bt5), rv b1, rv b8, jv (0 : Int64), .second, jv ((0 : Int64) + ((own_bi bt0).toInt64)), .second, jv (((0 : Int64) + ((own_bi bt0).toInt64)) + ((own_bi bt1).toInt64)), .second, jv ((((0 : Int64) + ((own_bi bt0).toInt64)) + ((own_bi bt1).toInt64)) + ((own_bi bt2).toInt64)), .second, jv (((((0 : Int64) + ((own_bi bt0).toInt64)) + ((own_bi bt1).toInt64)) + ((own_bi bt2).toInt64)) + ((own_bi bt3).toInt64)), .second, jv ((((((0 : Int64) + ((own_bi bt0).toInt64)) + ((own_bi bt1).toInt64)) + ((own_bi bt2).toInt64)) + ((own_bi bt3).toInt64)) + ((own_bi bt4).toInt64)), .second, jv (((((((0 : Int64) + ((own_bi bt0).toInt64)) + ((own_bi bt1).toInt64)) + ((own_bi bt2).toInt64)) + ((own_bi bt3).toInt64)) + ((own_bi bt4).toInt64)) + ((own_bi bt5).toInt64)), .second, jv (Int64.ofNat kk.val), .second, iv (-1 : Int32)]) rfl k) ?_
                                        have JX0 : ∀ (ex0 : Int32), (ex0 = own_e (own_bi bt0) (Int64.ofNat kk.val) (0 : Int64) (0 : Int32) (-1 : Int32)) → own_G p e below s (own_Q h0.size (fun v h => v = some (.int 1))) room_1.cells room_1.slots TK6 (mkF m 365 #[iv x0, jv x1, .second, iv x3, iv (own_bi bt0), iv (own_bi bt1), iv (own_bi bt2), iv (own_bi bt3), iv (own_bi bt4), iv (own_bi bt5), rv b1, rv b8, jv (0 : Int64), .second, jv ((0 : Int64) + ((own_bi bt0).toInt64)), .second, jv (((0 : Int64) + ((own_bi bt0).toInt64)) + ((own_bi bt1).toInt64)), .second, jv ((((0 : Int64) + ((own_bi bt0).toInt64)) + ((own_bi bt1).toInt64)) + ((own_bi bt2).toInt64)), .second, jv (((((0 : Int64) + ((own_bi bt0).toInt64)) + ((own_bi bt1).toInt64)) + ((own_bi bt2).toInt64)) + ((own_bi bt3).toInt64)), .second, jv ((((((0 : Int64) + ((own_bi bt0).toInt64)) + ((own_bi bt1).toInt64)) + ((own_bi bt2).toInt64)) + ((own_bi bt3).toInt64)) + ((own_bi bt4).toInt64)), .second, jv (((((((0 : Int64) + ((own_bi bt0).toInt64)) + ((own_bi bt1).toInt64)) + ((own_bi bt2).toInt64)) + ((own_bi bt3).toInt64)) + ((own_bi bt4).toInt64)) + ((own_bi bt5).toInt64)), .second, jv (Int64.ofNat kk.val), .second, iv ex0] []) := by
                                          intro ex0 hJX0
                                          have JX1 : ∀ (ex1 : Int32), (ex1 = own_e (own_bi bt1) (Int64.ofNat kk.val) ((0 : Int64) + ((own_bi bt0).toInt64)) (1 : Int32) ex0) → own_G p e below s (own_Q h0.size (fun v h => v = some (.int 1))) room_1.cells room_1.slots TK6 (mkF m 381 #[iv x0, jv x1, .second, iv x3, iv (own_bi bt0), iv (own_bi bt1), iv (own_bi bt2), iv (own_bi bt3), iv (own_bi bt4), iv (own_bi bt5), rv b1, rv b8, jv (0 : Int64), .second, jv ((0 : Int64) + ((own_bi bt0).toInt64)), .second, jv (((0 : Int64) + ((own_bi bt0).toInt64)) + ((own_bi bt1).toInt64)), .second, jv ((((0 : Int64) + ((own_bi bt0).toInt64)) + ((own_bi bt1).toInt64)) + ((own_bi bt2).toInt64)), .second, jv (((((0 : Int64) + ((own_bi bt0).toInt64)) + ((own_bi bt1).toInt64)) + ((own_bi bt2).toInt64)) + ((own_bi bt3).toInt64)), .second, jv ((((((0 : Int64) + ((own_bi bt0).toInt64)) + ((own_bi bt1).toInt64)) + ((own_bi bt2).toInt64)) + ((own_bi bt3).toInt64)) + ((own_bi bt4).toInt64)), .second, jv (((((((0 : Int64) + ((own_bi bt0).toInt64)) + ((own_bi bt1).toInt64)) + ((own_bi bt2).toInt64)) + ((own_bi bt3).toInt64)) + ((own_bi bt4).toInt64)) + ((own_bi bt5).toInt64)), .second, jv (Int64.ofNat kk.val), .second, iv ex1] []) := by
                                            intro ex1 hJX1
                                            have JX2 : ∀ (ex2 : Int32), (ex2 = own_e (own_bi bt2) (Int64.ofNat kk.val) (((0 : Int64) + ((own_bi bt0).toInt64)) + ((own_bi bt1).toInt64)) (2 : Int32) ex1) → own_G p e below s (own_Q h0.size (fun v h => v = some (.int 1))) room_1.cells room_1.slots TK6 (mkF m 397 #[iv x0, jv x1, .second, iv x3, iv (own_bi bt0), iv (own_bi bt1), iv (own_bi bt2), iv (own_bi bt3), iv (own_bi bt4), iv (own_bi bt5), rv b1, rv b8, jv (0 : Int64), .second, jv ((0 : Int64) + ((own_bi bt0).toInt64)), .second, jv (((0 : Int64) + ((own_bi bt0).toInt64)) + ((own_bi bt1).toInt64)), .second, jv ((((0 : Int64) + ((own_bi bt0).toInt64)) + ((own_bi bt1).toInt64)) + ((own_bi bt2).toInt64)), .second, jv (((((0 : Int64) + ((own_bi bt0).toInt64)) + ((own_bi bt1).toInt64)) + ((own_bi bt2).toInt64)) + ((own_bi bt3).toInt64)), .second, jv ((((((0 : Int64) + ((own_bi bt0).toInt64)) + ((own_bi bt1).toInt64)) + ((own_bi bt2).toInt64)) + ((own_bi bt3).toInt64)) + ((own_bi bt4).toInt64)), .second, jv (((((((0 : Int64) + ((own_bi bt0).toInt64)) + ((own_bi bt1).toInt64)) + ((own_bi bt2).toInt64)) + ((own_bi bt3).toInt64)) + ((own_bi bt4).toInt64)) + ((own_bi bt5).toInt64)), .second, jv (Int64.ofNat kk.val), .second, iv ex2] []) := by
                                              intro ex2 hJX2
                                              have JX3 : ∀ (ex3 : Int32), (ex3 = own_e (own_bi bt3) (Int64.ofNat kk.val) ((((0 : Int64) + ((own_bi bt0).toInt64)) + ((own_bi bt1).toInt64)) + ((own_bi bt2).toInt64)) (3 : Int32) ex2) → own_G p e below s (own_Q h0.size (fun v h => v = some (.int 1))) room_1.cells room_1.slots TK6 (mkF m 413 #[iv x0, jv x1, .second, iv x3, iv (own_bi bt0), iv (own_bi bt1), iv (own_bi bt2), iv (own_bi bt3), iv (own_bi bt4), iv (own_bi bt5), rv b1, rv b8, jv (0 : Int64), .second, jv ((0 : Int64) + ((own_bi bt0).toInt64)), .second, jv (((0 : Int64) + ((own_bi bt0).toInt64)) + ((own_bi bt1).toInt64)), .second, jv ((((0 : Int64) + ((own_bi bt0).toInt64)) + ((own_bi bt1).toInt64)) + ((own_bi bt2).toInt64)), .second, jv (((((0 : Int64) + ((own_bi bt0).toInt64)) + ((own_bi bt1).toInt64)) + ((own_bi bt2).toInt64)) + ((own_bi bt3).toInt64)), .second, jv ((((((0 : Int64) + ((own_bi bt0).toInt64)) + ((own_bi bt1).toInt64)) + ((own_bi bt2).toInt64)) + ((own_bi bt3).toInt64)) + ((own_bi bt4).toInt64)), .second, jv (((((((0 : Int64) + ((own_bi bt0).toInt64)) + ((own_bi bt1).toInt64)) + ((own_bi bt2).toInt64)) + ((own_bi bt3).toInt64)) + ((own_bi bt4).toInt64)) + ((own_bi bt5).toInt64)), .second, jv (Int64.ofNat kk.val), .second, iv ex3] []) := by
                                                intro ex3 hJX3
                                                have JX4 : ∀ (ex4 : Int32), (ex4 = own_e (own_bi bt4) (Int64.ofNat kk.val) (((((0 : Int64) + ((own_bi bt0).toInt64)) + ((own_bi bt1).toInt64)) + ((own_bi bt2).toInt64)) + ((own_bi bt3).toInt64)) (4 : Int32) ex3) → own_G p e below s (own_Q h0.size (fun v h => v = some (.int 1))) room_1.cells room_1.slots TK6 (mkF m 429 #[iv x0, jv x1, .second, iv x3, iv (own_bi bt0), iv (own_bi bt1), iv (own_bi bt2), iv (own_bi bt3), iv (own_bi bt4), iv (own_bi bt5), rv b1, rv b8, jv (0 : Int64), .second, jv ((0 : Int64) + ((own_bi bt0).toInt64)), .second, jv (((0 : Int64) + ((own_bi bt0).toInt64)) + ((own_bi bt1).toInt64)), .second, jv ((((0 : Int64) + ((own_bi bt0).toInt64)) + ((own_bi bt1).toInt64)) + ((own_bi bt2).toInt64)), .second, jv (((((0 : Int64) + ((own_bi bt0).toInt64)) + ((own_bi bt1).toInt64)) + ((own_bi bt2).toInt64)) + ((own_bi bt3).toInt64)), .second, jv ((((((0 : Int64) + ((own_bi bt0).toInt64)) + ((own_bi bt1).toInt64)) + ((own_bi bt2).toInt64)) + ((own_bi bt3).toInt64)) + ((own_bi bt4).toInt64)), .second, jv (((((((0 : Int64) + ((own_bi bt0).toInt64)) + ((own_bi bt1).toInt64)) + ((own_bi bt2).toInt64)) + ((own_bi bt3).toInt64)) + ((own_bi bt4).toInt64)) + ((own_bi bt5).toInt64)), .second, jv (Int64.ofNat kk.val), .second, iv ex4] []) := by
                                                  intro ex4 hJX4
                                                  have JX5 : ∀ (ex5 : Int32), (ex5 = own_e (own_bi bt5) (Int64.ofNat kk.val) ((((((0 : Int64) + ((own_bi bt0).toInt64)) + ((own_bi bt1).toInt64)) + ((own_bi bt2).toInt64)) + ((own_bi bt3).toInt64)) + ((own_bi bt4).toInt64)) (5 : Int32) ex4) → own_G p e below s (own_Q h0.size (fun v h => v = some (.int 1))) room_1.cells room_1.slots TK6 (mkF m 445 #[iv x0, jv x1, .second, iv x3, iv (own_bi bt0), iv (own_bi bt1), iv (own_bi bt2), iv (own_bi bt3), iv (own_bi bt4), iv (own_bi bt5), rv b1, rv b8, jv (0 : Int64), .second, jv ((0 : Int64) + ((own_bi bt0).toInt64)), .second, jv (((0 : Int64) + ((own_bi bt0).toInt64)) + ((own_bi bt1).toInt64)), .second, jv ((((0 : Int64) + ((own_bi bt0).toInt64)) + ((own_bi bt1).toInt64)) + ((own_bi bt2).toInt64)), .second, jv (((((0 : Int64) + ((own_bi bt0).toInt64)) + ((own_bi bt1).toInt64)) + ((own_bi bt2).toInt64)) + ((own_bi bt3).toInt64)), .second, jv ((((((0 : Int64) + ((own_bi bt0).toInt64)) + ((own_bi bt1).toInt64)) + ((own_bi bt2).toInt64)) + ((own_bi bt3).toInt64)) + ((own_bi bt4).toInt64)), .second, jv (((((((0 : Int64) + ((own_bi bt0).toInt64)) + ((own_bi bt1).toInt64)) + ((own_bi bt2).toInt64)) + ((own_bi bt3).toInt64)) + ((own_bi bt4).toInt64)) + ((own_bi bt5).toInt64)), .second, jv (Int64.ofNat kk.val), .second, iv ex5] []) := by
                                                    intro ex5 hJX5
                                                    refine own_go (mkF m 447 #[iv x0, jv x1, .second, iv x3, iv (own_bi bt0), iv (own_bi bt1), iv (own_bi bt2), iv (own_bi bt3), iv (own_bi bt4), iv (own_bi bt5), rv b1, rv b8, jv (0 : Int64), .second, jv ((0 : Int64) + ((own_bi bt0).toInt64)), .second, jv (((0 : Int64) + ((own_bi bt0).toInt64)) + ((own_bi bt1).toInt64)), .second, jv ((((0 : Int64) + ((own_bi bt0).toInt64)) + ((own_bi bt1).toInt64)) + ((own_bi bt2).toInt64)), .second, jv (((((0 : Int64) + ((own_bi bt0).toInt64)) + ((own_bi bt1).toInt64)) + ((own_bi bt2).toInt64)) + ((own_bi bt3).toInt64)), .second, jv ((((((0 : Int64) + ((own_bi bt0).toInt64)) + ((own_bi bt1).toInt64)) + ((own_bi bt2).toInt64)) + ((own_bi bt3).toInt64)) + ((own_bi bt4).toInt64)), .second, jv (((((((0 : Int64) + ((own_bi bt0).toInt64)) + ((own_bi bt1).toInt64)) + ((own_bi bt2).toInt64)) + ((own_bi bt3).toInt64)) + ((own_bi bt4).toInt64)) + ((own_bi bt5).toInt64)), .second, jv (Int64.ofNat kk.val), .second, iv ex5] [(.ref b8)]) (fun t' k => XS.aload XK6.here hx rfl (hb hby at_445) rfl rfl  k) ?_
                                                    refine own_go (mkF m 449 #[iv x0, jv x1, .second, iv x3, iv (own_bi bt0), iv (own_bi bt1), iv (own_bi bt2), iv (own_bi bt3), iv (own_bi bt4), iv (own_bi bt5), rv b1, rv b8, jv (0 : Int64), .second, jv ((0 : Int64) + ((own_bi bt0).toInt64)), .second, jv (((0 : Int64) + ((own_bi bt0).toInt64)) + ((own_bi bt1).toInt64)), .second, jv ((((0 : Int64) + ((own_bi bt0).toInt64)) + ((own_bi bt1).toInt64)) + ((own_bi bt2).toInt64)), .second, jv (((((0 : Int64) + ((own_bi bt0).toInt64)) + ((own_bi bt1).toInt64)) + ((own_bi bt2).toInt64)) + ((own_bi bt3).toInt64)), .second, jv ((((((0 : Int64) + ((own_bi bt0).toInt64)) + ((own_bi bt1).toInt64)) + ((own_bi bt2).toInt64)) + ((own_bi bt3).toInt64)) + ((own_bi bt4).toInt64)), .second, jv (((((((0 : Int64) + ((own_bi bt0).toInt64)) + ((own_bi bt1).toInt64)) + ((own_bi bt2).toInt64)) + ((own_bi bt3).toInt64)) + ((own_bi bt4).toInt64)) + ((own_bi bt5).toInt64)), .second, jv (Int64.ofNat kk.val), .second, iv ex5] [(.long (Int64.ofNat kk.val)), (.ref b8)]) (fun t' k => XS.lload XK6.here hx rfl (hb hby at_447) rfl  k) ?_
                                                    have E10 := HK6.2.2.1.1
                                                    refine XK6.callV hx hZ (y := (⟨"com/example/load_across_peers/loadacrosspeers/internal/pick/WeightTree", "takingPartAt", "(J)I"⟩ : MethodName)) (C := "com/example/load_across_peers/loadacrosspeers/internal/pick/WeightTree") hown (hw _ (List.mem_of_getElem? (i := 39) rfl)) (hw _ (List.mem_of_getElem? (i := 40) rfl)) (hw _ (List.mem_of_getElem? (i := 42) rfl)) (hw _ (List.mem_of_getElem? (i := 41) rfl)) (hw _ (List.mem_of_getElem? (i := 3) rfl)) (hw _ (List.mem_of_getElem? (i := 43) rfl)) (by decide) rfl E10 [(.long (Int64.ofNat kk.val))] [] (own_rmP l Z a0 hw [] TK6.heap h0.size b8 b1 bp bs bc _ _ _ _ _ _ _ HK6 (Int64.ofNat kk.val)) 0 (by decide) (by decide) (Nat.le_of_eq rfl) (by decide) (by decide) (by rw [hml]; rfl) (lenOf own_pd4 rfl) rfl (hb hby at_449) ?_
                                                    rintro T10 _ X10 ⟨rfl, e10⟩
                                                    show own_G p e below s _ _ _ T10 (mkF m 452 #[iv x0, jv x1, .second, iv x3, iv (own_bi bt0), iv (own_bi bt1), iv (own_bi bt2), iv (own_bi bt3), iv (own_bi bt4), iv (own_bi bt5), rv b1, rv b8, jv (0 : Int64), .second, jv ((0 : Int64) + ((own_bi bt0).toInt64)), .second, jv (((0 : Int64) + ((own_bi bt0).toInt64)) + ((own_bi bt1).toInt64)), .second, jv ((((0 : Int64) + ((own_bi bt0).toInt64)) + ((own_bi bt1).toInt64)) + ((own_bi bt2).toInt64)), .second, jv (((((0 : Int64) + ((own_bi bt0).toInt64)) + ((own_bi bt1).toInt64)) + ((own_bi bt2).toInt64)) + ((own_bi bt3).toInt64)), .second, jv ((((((0 : Int64) + ((own_bi bt0).toInt64)) + ((own_bi bt1).toInt64)) + ((own_bi bt2).toInt64)) + ((own_bi bt3).toInt64)) + ((own_bi bt4).toInt64)), .second, jv (((((((0 : Int64) + ((own_bi bt0).toInt64)) + ((own_bi bt1).toInt64)) + ((own_bi bt2).toInt64)) + ((own_bi bt3).toInt64)) + ((own_bi bt4).toInt64)) + ((own_bi bt5).toInt64)), .second, jv (Int64.ofNat kk.val), .second, iv ex5] [(.int (own_tp (Int64.ofNat kk.val) (0 : Int32) (own_bi bt0) ((own_bi bt0) + (own_bi bt1)) (own_bi bt2) ((own_bi bt0) + (own_bi bt1) + (own_bi bt2) + (own_bi bt3)) (own_bi bt4) ((own_bi bt4) + (own_bi bt5))))])
                                                    refine own_go (mkF m 454 #[iv x0, jv x1, .second, iv x3, iv (own_bi bt0), iv (own_bi bt1), iv (own_bi bt2), iv (own_bi bt3), iv (own_bi bt4), iv (own_bi bt5), rv b1, rv b8, jv (0 : Int64), .second, jv ((0 : Int64) + ((own_bi bt0).toInt64)), .second, jv (((0 : Int64) + ((own_bi bt0).toInt64)) + ((own_bi bt1).toInt64)), .second, jv ((((0 : Int64) + ((own_bi bt0).toInt64)) + ((own_bi bt1).toInt64)) + ((own_bi bt2).toInt64)), .second, jv (((((0 : Int64) + ((own_bi bt0).toInt64)) + ((own_bi bt1).toInt64)) + ((own_bi bt2).toInt64)) + ((own_bi bt3).toInt64)), .second, jv ((((((0 : Int64) + ((own_bi bt0).toInt64)) + ((own_bi bt1).toInt64)) + ((own_bi bt2).toInt64)) + ((own_bi bt3).toInt64)) + ((own_bi bt4).toInt64)), .second, jv (((((((0 : Int64) + ((own_bi bt0).toInt64)) + ((own_bi bt1).toInt64)) + ((own_bi bt2).toInt64)) + ((own_bi bt3).toInt64)) + ((own_bi bt4).toInt64)) + ((own_bi bt5).toInt64)), .second, jv (Int64.ofNat kk.val), .second, iv ex5] [(.int ex5), (.int (own_tp (Int64.ofNat kk.val) (0 : Int32) (own_bi bt0) ((own_bi bt0) + (own_bi bt1)) (own_bi bt2) ((own_bi bt0) + (own_bi bt1) + (own_bi bt2) + (own_bi bt3)) (own_bi bt4) ((own_bi bt4) + (own_bi bt5))))]) (fun t' k => XS.iload X10.here hx rfl (hb hby at_452) rfl  k) ?_
                                                    refine own_go (mkF m 457 #[iv x0, jv x1, .second, iv x3, iv (own_bi bt0), iv (own_bi bt1), iv (own_bi bt2), iv (own_bi bt3), iv (own_bi bt4), iv (own_bi bt5), rv b1, rv b8, jv (0 : Int64), .second, jv ((0 : Int64) + ((own_bi bt0).toInt64)), .second, jv (((0 : Int64) + ((own_bi bt0).toInt64)) + ((own_bi bt1).toInt64)), .second, jv ((((0 : Int64) + ((own_bi bt0).toInt64)) + ((own_bi bt1).toInt64)) + ((own_bi bt2).toInt64)), .second, jv (((((0 : Int64) + ((own_bi bt0).toInt64)) + ((own_bi bt1).toInt64)) + ((own_bi bt2).toInt64)) + ((own_bi bt3).toInt64)), .second, jv ((((((0 : Int64) + ((own_bi bt0).toInt64)) + ((own_bi bt1).toInt64)) + ((own_bi bt2).toInt64)) + ((own_bi bt3).toInt64)) + ((own_bi bt4).toInt64)), .second, jv (((((((0 : Int64) + ((own_bi bt0).toInt64)) + ((own_bi bt1).toInt64)) + ((own_bi bt2).toInt64)) + ((own_bi bt3).toInt64)) + ((own_bi bt4).toInt64)) + ((own_bi bt5).toInt64)), .second, jv (Int64.ofNat kk.val), .second, iv ex5] []) (fun t' k => XS.icmpNo X10.here hx rfl (hb hby at_454) rfl (teq ((own_all bt0 bt1 bt2 bt3 bt4 bt5 kk hkl).trans (by subst hJX0 hJX1 hJX2 hJX3 hJX4 hJX5; rfl))).2 k) ?_
                                                    refine own_go (mkF m 458 #[iv x0, jv x1, .second, iv x3, iv (own_bi bt0), iv (own_bi bt1), iv (own_bi bt2), iv (own_bi bt3), iv (own_bi bt4), iv (own_bi bt5), rv b1, rv b8, jv (0 : Int64), .second, jv ((0 : Int64) + ((own_bi bt0).toInt64)), .second, jv (((0 : Int64) + ((own_bi bt0).toInt64)) + ((own_bi bt1).toInt64)), .second, jv ((((0 : Int64) + ((own_bi bt0).toInt64)) + ((own_bi bt1).toInt64)) + ((own_bi bt2).toInt64)), .second, jv (((((0 : Int64) + ((own_bi bt0).toInt64)) + ((own_bi bt1).toInt64)) + ((own_bi bt2).toInt64)) + ((own_bi bt3).toInt64)), .second, jv ((((((0 : Int64) + ((own_bi bt0).toInt64)) + ((own_bi bt1).toInt64)) + ((own_bi bt2).toInt64)) + ((own_bi bt3).toInt64)) + ((own_bi bt4).toInt64)), .second, jv (((((((0 : Int64) + ((own_bi bt0).toInt64)) + ((own_bi bt1).toInt64)) + ((own_bi bt2).toInt64)) + ((own_bi bt3).toInt64)) + ((own_bi bt4).toInt64)) + ((own_bi bt5).toInt64)), .second, jv (Int64.ofNat kk.val), .second, iv ex5] [(.int (1 : Int32))]) (fun t' k => XS.iconst X10.here hx rfl (hb hby at_457) k) ?_
                                                    refine own_go (mkF m 462 #[iv x0, jv x1, .second, iv x3, iv (own_bi bt0), iv (own_bi bt1), iv (own_bi bt2), iv (own_bi bt3), iv (own_bi bt4), iv (own_bi bt5), rv b1, rv b8, jv (0 : Int64), .second, jv ((0 : Int64) + ((own_bi bt0).toInt64)), .second, jv (((0 : Int64) + ((own_bi bt0).toInt64)) + ((own_bi bt1).toInt64)), .second, jv ((((0 : Int64) + ((own_bi bt0).toInt64)) + ((own_bi bt1).toInt64)) + ((own_bi bt2).toInt64)), .second, jv (((((0 : Int64) + ((own_bi bt0).toInt64)) + ((own_bi bt1).toInt64)) + ((own_bi bt2).toInt64)) + ((own_bi bt3).toInt64)), .second, jv ((((((0 : Int64) + ((own_bi bt0).toInt64)) + ((own_bi bt1).toInt64)) + ((own_bi bt2).toInt64)) + ((own_bi bt3).toInt64)) + ((own_bi bt4).toInt64)), .second, jv (((((((0 : Int64) + ((own_bi bt0).toInt64)) + ((own_bi bt1).toInt64)) + ((own_bi bt2).toInt64)) + ((own_bi bt3).toInt64)) + ((own_bi bt4).toInt64)) + ((own_bi bt5).toInt64)), .second, jv (Int64.ofNat kk.val), .second, iv ex5] [(.int (1 : Int32))]) (fun t' k => XS.goto X10.here hx rfl (pc0 := 458) (pc' := 462) rfl (hb hby at_458) (by decide) (by decide) k) ?_
                                                    refine X10.retZ hx hlk hret (hb hby at_462) ?_ (by decide) (by decide)
                                                    exact rfl
                                                  refine own_go (mkF m 431 #[iv x0, jv x1, .second, iv x3, iv (own_bi bt0), iv (own_bi bt1), iv (own_bi bt2), iv (own_bi bt3), iv (own_bi bt4), iv (own_bi bt5), rv b1, rv b8, jv (0 : Int64), .second, jv ((0 : Int64) + ((own_bi bt0).toInt64)), .second, jv (((0 : Int64) + ((own_bi bt0).toInt64)) + ((own_bi bt1).toInt64)), .second, jv ((((0 : Int64) + ((own_bi bt0).toInt64)) + ((own_bi bt1).toInt64)) + ((own_bi bt2).toInt64)), .second, jv (((((0 : Int64) + ((own_bi bt0).toInt64)) + ((own_bi bt1).toInt64)) + ((own_bi bt2).toInt64)) + ((own_bi bt3).toInt64)), .second, jv ((((((0 : Int64) + ((own_bi bt0).toInt64)) + ((own_bi bt1).toInt64)) + ((own_bi bt2).toInt64)) + ((own_bi bt3).toInt64)) + ((own_bi bt4).toInt64)), .second, jv (((((((0 : Int64) + ((own_bi bt0).toInt64)) + ((own_bi bt1).toInt64)) + ((own_bi bt2).toInt64)) + ((own_bi bt3).toInt64)) + ((own_bi bt4).toInt64)) + ((own_bi bt5).toInt64)), .second, jv (Int64.ofNat kk.val), .second, iv ex4] [(.int (own_bi bt5))]) (fun t' k => XS.iload XK6.here hx rfl (hb hby at_429) rfl  k) ?_
                                                  by_cases hc431 : (own_bi bt5) = (0 : Int32)
                                                  · skip
                                                    refine own_go (mkF m 445 #[iv x0, jv x1, .second, iv x3, iv (own_bi bt0), iv (own_bi bt1), iv (own_bi bt2), iv (own_bi bt3), iv (own_bi bt4), iv (own_bi bt5), rv b1, rv b8, jv (0 : Int64), .second, jv ((0 : Int64) + ((own_bi bt0).toInt64)), .second, jv (((0 : Int64) + ((own_bi bt0).toInt64)) + ((own_bi bt1).toInt64)), .second, jv ((((0 : Int64) + ((own_bi bt0).toInt64)) + ((own_bi bt1).toInt64)) + ((own_bi bt2).toInt64)), .second, jv (((((0 : Int64) + ((own_bi bt0).toInt64)) + ((own_bi bt1).toInt64)) + ((own_bi bt2).toInt64)) + ((own_bi bt3).toInt64)), .second, jv ((((((0 : Int64) + ((own_bi bt0).toInt64)) + ((own_bi bt1).toInt64)) + ((own_bi bt2).toInt64)) + ((own_bi bt3).toInt64)) + ((own_bi bt4).toInt64)), .second, jv (((((((0 : Int64) + ((own_bi bt0).toInt64)) + ((own_bi bt1).toInt64)) + ((own_bi bt2).toInt64)) + ((own_bi bt3).toInt64)) + ((own_bi bt4).toInt64)) + ((own_bi bt5).toInt64)), .second, jv (Int64.ofNat kk.val), .second, iv ex4] []) (fun t' k => XS.ifYes XK6.here hx rfl (pc0 := 431) (pc' := 445) rfl (hb hby at_431) rfl ((if0 _ _).trans (teq hc431).1) (by decide) (by decide) k) ?_
                                                    exact JX5 (ex4) (show ex4 = own_e (own_bi bt5) (Int64.ofNat kk.val) ((((((0 : Int64) + ((own_bi bt0).toInt64)) + ((own_bi bt1).toInt64)) + ((own_bi bt2).toInt64)) + ((own_bi bt3).toInt64)) + ((own_bi bt4).toInt64)) (5 : Int32) ex4 from (show own_e (own_bi bt5) (Int64.ofNat kk.val) ((((((0 : Int64) + ((own_bi bt0).toInt64)) + ((own_bi bt1).toInt64)) + ((own_bi bt2).toInt64)) + ((own_bi bt3).toInt64)) + ((own_bi bt4).toInt64)) (5 : Int32) ex4 = ex4 from ((if_pos hc431).trans rfl)).symm)
                                                  · skip
                                                    refine own_go (mkF m 434 #[iv x0, jv x1, .second, iv x3, iv (own_bi bt0), iv (own_bi bt1), iv (own_bi bt2), iv (own_bi bt3), iv (own_bi bt4), iv (own_bi bt5), rv b1, rv b8, jv (0 : Int64), .second, jv ((0 : Int64) + ((own_bi bt0).toInt64)), .second, jv (((0 : Int64) + ((own_bi bt0).toInt64)) + ((own_bi bt1).toInt64)), .second, jv ((((0 : Int64) + ((own_bi bt0).toInt64)) + ((own_bi bt1).toInt64)) + ((own_bi bt2).toInt64)), .second, jv (((((0 : Int64) + ((own_bi bt0).toInt64)) + ((own_bi bt1).toInt64)) + ((own_bi bt2).toInt64)) + ((own_bi bt3).toInt64)), .second, jv ((((((0 : Int64) + ((own_bi bt0).toInt64)) + ((own_bi bt1).toInt64)) + ((own_bi bt2).toInt64)) + ((own_bi bt3).toInt64)) + ((own_bi bt4).toInt64)), .second, jv (((((((0 : Int64) + ((own_bi bt0).toInt64)) + ((own_bi bt1).toInt64)) + ((own_bi bt2).toInt64)) + ((own_bi bt3).toInt64)) + ((own_bi bt4).toInt64)) + ((own_bi bt5).toInt64)), .second, jv (Int64.ofNat kk.val), .second, iv ex4] []) (fun t' k => XS.ifNo XK6.here hx rfl (hb hby at_431) rfl ((if0 _ _).trans (feq hc431).1) k) ?_
                                                    refine own_go (mkF m 436 #[iv x0, jv x1, .second, iv x3, iv (own_bi bt0), iv (own_bi bt1), iv (own_bi bt2), iv (own_bi bt3), iv (own_bi bt4), iv (own_bi bt5), rv b1, rv b8, jv (0 : Int64), .second, jv ((0 : Int64) + ((own_bi bt0).toInt64)), .second, jv (((0 : Int64) + ((own_bi bt0).toInt64)) + ((own_bi bt1).toInt64)), .second, jv ((((0 : Int64) + ((own_bi bt0).toInt64)) + ((own_bi bt1).toInt64)) + ((own_bi bt2).toInt64)), .second, jv (((((0 : Int64) + ((own_bi bt0).toInt64)) + ((own_bi bt1).toInt64)) + ((own_bi bt2).toInt64)) + ((own_bi bt3).toInt64)), .second, jv ((((((0 : Int64) + ((own_bi bt0).toInt64)) + ((own_bi bt1).toInt64)) + ((own_bi bt2).toInt64)) + ((own_bi bt3).toInt64)) + ((own_bi bt4).toInt64)), .second, jv (((((((0 : Int64) + ((own_bi bt0).toInt64)) + ((own_bi bt1).toInt64)) + ((own_bi bt2).toInt64)) + ((own_bi bt3).toInt64)) + ((own_bi bt4).toInt64)) + ((own_bi bt5).toInt64)), .second, jv (Int64.ofNat kk.val), .second, iv ex4] [(.long (Int64.ofNat kk.val))]) (fun t' k => XS.lload XK6.here hx rfl (hb hby at_434) rfl  k) ?_
                                                    refine own_go (mkF m 438 #[iv x0, jv x1, .second, iv x3, iv (own_bi bt0), iv (own_bi bt1), iv (own_bi bt2), iv (own_bi bt3), iv (own_bi bt4), iv (own_bi bt5), rv b1, rv b8, jv (0 : Int64), .second, jv ((0 : Int64) + ((own_bi bt0).toInt64)), .second, jv (((0 : Int64) + ((own_bi bt0).toInt64)) + ((own_bi bt1).toInt64)), .second, jv ((((0 : Int64) + ((own_bi bt0).toInt64)) + ((own_bi bt1).toInt64)) + ((own_bi bt2).toInt64)), .second, jv (((((0 : Int64) + ((own_bi bt0).toInt64)) + ((own_bi bt1).toInt64)) + ((own_bi bt2).toInt64)) + ((own_bi bt3).toInt64)), .second, jv ((((((0 : Int64) + ((own_bi bt0).toInt64)) + ((own_bi bt1).toInt64)) + ((own_bi bt2).toInt64)) + ((own_bi bt3).toInt64)) + ((own_bi bt4).toInt64)), .second, jv (((((((0 : Int64) + ((own_bi bt0).toInt64)) + ((own_bi bt1).toInt64)) + ((own_bi bt2).toInt64)) + ((own_bi bt3).toInt64)) + ((own_bi bt4).toInt64)) + ((own_bi bt5).toInt64)), .second, jv (Int64.ofNat kk.val), .second, iv ex4] [(.long ((((((0 : Int64) + ((own_bi bt0).toInt64)) + ((own_bi bt1).toInt64)) + ((own_bi bt2).toInt64)) + ((own_bi bt3).toInt64)) + ((own_bi bt4).toInt64))), (.long (Int64.ofNat kk.val))]) (fun t' k => XS.lload XK6.here hx rfl (hb hby at_436) rfl  k) ?_
                                                    refine own_go (mkF m 439 #[iv x0, jv x1, .second, iv x3, iv (own_bi bt0), iv (own_bi bt1), iv (own_bi bt2), iv (own_bi bt3), iv (own_bi bt4), iv (own_bi bt5), rv b1, rv b8, jv (0 : Int64), .second, jv ((0 : Int64) + ((own_bi bt0).toInt64)), .second, jv (((0 : Int64) + ((own_bi bt0).toInt64)) + ((own_bi bt1).toInt64)), .second, jv ((((0 : Int64) + ((own_bi bt0).toInt64)) + ((own_bi bt1).toInt64)) + ((own_bi bt2).toInt64)), .second, jv (((((0 : Int64) + ((own_bi bt0).toInt64)) + ((own_bi bt1).toInt64)) + ((own_bi bt2).toInt64)) + ((own_bi bt3).toInt64)), .second, jv ((((((0 : Int64) + ((own_bi bt0).toInt64)) + ((own_bi bt1).toInt64)) + ((own_bi bt2).toInt64)) + ((own_bi bt3).toInt64)) + ((own_bi bt4).toInt64)), .second, jv (((((((0 : Int64) + ((own_bi bt0).toInt64)) + ((own_bi bt1).toInt64)) + ((own_bi bt2).toInt64)) + ((own_bi bt3).toInt64)) + ((own_bi bt4).toInt64)) + ((own_bi bt5).toInt64)), .second, jv (Int64.ofNat kk.val), .second, iv ex4] [(.int (lcmpW (Int64.ofNat kk.val) ((((((0 : Int64) + ((own_bi bt0).toInt64)) + ((own_bi bt1).toInt64)) + ((own_bi bt2).toInt64)) + ((own_bi bt3).toInt64)) + ((own_bi bt4).toInt64))))]) (fun t' k => XS.lcmp XK6.here hx rfl (hb hby at_438) rfl k) ?_
                                                    by_cases hc439 : (Int64.ofNat kk.val) = ((((((0 : Int64) + ((own_bi bt0).toInt64)) + ((own_bi bt1).toInt64)) + ((own_bi bt2).toInt64)) + ((own_bi bt3).toInt64)) + ((own_bi bt4).toInt64))
                                                    · skip
                                                      refine own_go (mkF m 442 #[iv x0, jv x1, .second, iv x3, iv (own_bi bt0), iv (own_bi bt1), iv (own_bi bt2), iv (own_bi bt3), iv (own_bi bt4), iv (own_bi bt5), rv b1, rv b8, jv (0 : Int64), .second, jv ((0 : Int64) + ((own_bi bt0).toInt64)), .second, jv (((0 : Int64) + ((own_bi bt0).toInt64)) + ((own_bi bt1).toInt64)), .second, jv ((((0 : Int64) + ((own_bi bt0).toInt64)) + ((own_bi bt1).toInt64)) + ((own_bi bt2).toInt64)), .second, jv (((((0 : Int64) + ((own_bi bt0).toInt64)) + ((own_bi bt1).toInt64)) + ((own_bi bt2).toInt64)) + ((own_bi bt3).toInt64)), .second, jv ((((((0 : Int64) + ((own_bi bt0).toInt64)) + ((own_bi bt1).toInt64)) + ((own_bi bt2).toInt64)) + ((own_bi bt3).toInt64)) + ((own_bi bt4).toInt64)), .second, jv (((((((0 : Int64) + ((own_bi bt0).toInt64)) + ((own_bi bt1).toInt64)) + ((own_bi bt2).toInt64)) + ((own_bi bt3).toInt64)) + ((own_bi bt4).toInt64)) + ((own_bi bt5).toInt64)), .second, jv (Int64.ofNat kk.val), .second, iv ex4] []) (fun t' k => XS.ifNo XK6.here hx rfl (hb hby at_439) rfl ((if0 _ _).trans (teq ((lw_eq (Int64.ofNat kk.val) ((((((0 : Int64) + ((own_bi bt0).toInt64)) + ((own_bi bt1).toInt64)) + ((own_bi bt2).toInt64)) + ((own_bi bt3).toInt64)) + ((own_bi bt4).toInt64))).mpr hc439)).2) k) ?_
                                                      refine own_go (mkF m 443 #[iv x0, jv x1, .second, iv x3, iv (own_bi bt0), iv (own_bi bt1), iv (own_bi bt2), iv (own_bi bt3), iv (own_bi bt4), iv (own_bi bt5), rv b1, rv b8, jv (0 : Int64), .second, jv ((0 : Int64) + ((own_bi bt0).toInt64)), .second, jv (((0 : Int64) + ((own_bi bt0).toInt64)) + ((own_bi bt1).toInt64)), .second, jv ((((0 : Int64) + ((own_bi bt0).toInt64)) + ((own_bi bt1).toInt64)) + ((own_bi bt2).toInt64)), .second, jv (((((0 : Int64) + ((own_bi bt0).toInt64)) + ((own_bi bt1).toInt64)) + ((own_bi bt2).toInt64)) + ((own_bi bt3).toInt64)), .second, jv ((((((0 : Int64) + ((own_bi bt0).toInt64)) + ((own_bi bt1).toInt64)) + ((own_bi bt2).toInt64)) + ((own_bi bt3).toInt64)) + ((own_bi bt4).toInt64)), .second, jv (((((((0 : Int64) + ((own_bi bt0).toInt64)) + ((own_bi bt1).toInt64)) + ((own_bi bt2).toInt64)) + ((own_bi bt3).toInt64)) + ((own_bi bt4).toInt64)) + ((own_bi bt5).toInt64)), .second, jv (Int64.ofNat kk.val), .second, iv ex4] [(.int (5 : Int32))]) (fun t' k => XS.iconst XK6.here hx rfl (hb hby at_442) k) ?_
                                                      refine own_go (mkF m 445 #[iv x0, jv x1, .second, iv x3, iv (own_bi bt0), iv (own_bi bt1), iv (own_bi bt2), iv (own_bi bt3), iv (own_bi bt4), iv (own_bi bt5), rv b1, rv b8, jv (0 : Int64), .second, jv ((0 : Int64) + ((own_bi bt0).toInt64)), .second, jv (((0 : Int64) + ((own_bi bt0).toInt64)) + ((own_bi bt1).toInt64)), .second, jv ((((0 : Int64) + ((own_bi bt0).toInt64)) + ((own_bi bt1).toInt64)) + ((own_bi bt2).toInt64)), .second, jv (((((0 : Int64) + ((own_bi bt0).toInt64)) + ((own_bi bt1).toInt64)) + ((own_bi bt2).toInt64)) + ((own_bi bt3).toInt64)), .second, jv ((((((0 : Int64) + ((own_bi bt0).toInt64)) + ((own_bi bt1).toInt64)) + ((own_bi bt2).toInt64)) + ((own_bi bt3).toInt64)) + ((own_bi bt4).toInt64)), .second, jv (((((((0 : Int64) + ((own_bi bt0).toInt64)) + ((own_bi bt1).toInt64)) + ((own_bi bt2).toInt64)) + ((own_bi bt3).toInt64)) + ((own_bi bt4).toInt64)) + ((own_bi bt5).toInt64)), .second, jv (Int64.ofNat kk.val), .second, iv (5 : Int32)] []) (fun t' k => XS.istore XK6.here hx rfl (hb hby at_443) rfl (l' := #[iv x0, jv x1, .second, iv x3, iv (own_bi bt0), iv (own_bi bt1), iv (own_bi bt2), iv (own_bi bt3), iv (own_bi bt4), iv (own_bi bt5), rv b1, rv b8, jv (0 : Int64), .second, jv ((0 : Int64) + ((own_bi bt0).toInt64)), .second, jv (((0 : Int64) + ((own_bi bt0).toInt64)) + ((own_bi bt1).toInt64)), .second, jv ((((0 : Int64) + ((own_bi bt0).toInt64)) + ((own_bi bt1).toInt64)) + ((own_bi bt2).toInt64)), .second, jv (((((0 : Int64) + ((own_bi bt0).toInt64)) + ((own_bi bt1).toInt64)) + ((own_bi bt2).toInt64)) + ((own_bi bt3).toInt64)), .second, jv ((((((0 : Int64) + ((own_bi bt0).toInt64)) + ((own_bi bt1).toInt64)) + ((own_bi bt2).toInt64)) + ((own_bi bt3).toInt64)) + ((own_bi bt4).toInt64)), .second, jv (((((((0 : Int64) + ((own_bi bt0).toInt64)) + ((own_bi bt1).toInt64)) + ((own_bi bt2).toInt64)) + ((own_bi bt3).toInt64)) + ((own_bi bt4).toInt64)) + ((own_bi bt5).toInt64)), .second, jv (Int64.ofNat kk.val), .second, iv (5 : Int32)]) rfl k) ?_
                                                      exact JX5 ((5 : Int32)) (show (5 : Int32) = own_e (own_bi bt5) (Int64.ofNat kk.val) ((((((0 : Int64) + ((own_bi bt0).toInt64)) + ((own_bi bt1).toInt64)) + ((own_bi bt2).toInt64)) + ((own_bi bt3).toInt64)) + ((own_bi bt4).toInt64)) (5 : Int32) ex4 from (show own_e (own_bi bt5) (Int64.ofNat kk.val) ((((((0 : Int64) + ((own_bi bt0).toInt64)) + ((own_bi bt1).toInt64)) + ((own_bi bt2).toInt64)) + ((own_bi bt3).toInt64)) + ((own_bi bt4).toInt64)) (5 : Int32) ex4 = (5 : Int32) from ((if_neg hc431).trans ((if_pos hc439).trans rfl))).symm)
                                                    · skip
                                                      refine own_go (mkF m 445 #[iv x0, jv x1, .second, iv x3, iv (own_bi bt0), iv (own_bi bt1), iv (own_bi bt2), iv (own_bi bt3), iv (own_bi bt4), iv (own_bi bt5), rv b1, rv b8, jv (0 : Int64), .second, jv ((0 : Int64) + ((own_bi bt0).toInt64)), .second, jv (((0 : Int64) + ((own_bi bt0).toInt64)) + ((own_bi bt1).toInt64)), .second, jv ((((0 : Int64) + ((own_bi bt0).toInt64)) + ((own_bi bt1).toInt64)) + ((own_bi bt2).toInt64)), .second, jv (((((0 : Int64) + ((own_bi bt0).toInt64)) + ((own_bi bt1).toInt64)) + ((own_bi bt2).toInt64)) + ((own_bi bt3).toInt64)), .second, jv ((((((0 : Int64) + ((own_bi bt0).toInt64)) + ((own_bi bt1).toInt64)) + ((own_bi bt2).toInt64)) + ((own_bi bt3).toInt64)) + ((own_bi bt4).toInt64)), .second, jv (((((((0 : Int64) + ((own_bi bt0).toInt64)) + ((own_bi bt1).toInt64)) + ((own_bi bt2).toInt64)) + ((own_bi bt3).toInt64)) + ((own_bi bt4).toInt64)) + ((own_bi bt5).toInt64)), .second, jv (Int64.ofNat kk.val), .second, iv ex4] []) (fun t' k => XS.ifYes XK6.here hx rfl (pc0 := 439) (pc' := 445) rfl (hb hby at_439) rfl ((if0 _ _).trans (feq (fun q => hc439 ((lw_eq (Int64.ofNat kk.val) ((((((0 : Int64) + ((own_bi bt0).toInt64)) + ((own_bi bt1).toInt64)) + ((own_bi bt2).toInt64)) + ((own_bi bt3).toInt64)) + ((own_bi bt4).toInt64))).mp q))).2) (by decide) (by decide) k) ?_
                                                      exact JX5 (ex4) (show ex4 = own_e (own_bi bt5) (Int64.ofNat kk.val) ((((((0 : Int64) + ((own_bi bt0).toInt64)) + ((own_bi bt1).toInt64)) + ((own_bi bt2).toInt64)) + ((own_bi bt3).toInt64)) + ((own_bi bt4).toInt64)) (5 : Int32) ex4 from (show own_e (own_bi bt5) (Int64.ofNat kk.val) ((((((0 : Int64) + ((own_bi bt0).toInt64)) + ((own_bi bt1).toInt64)) + ((own_bi bt2).toInt64)) + ((own_bi bt3).toInt64)) + ((own_bi bt4).toInt64)) (5 : Int32) ex4 = ex4 from ((if_neg hc431).trans ((if_neg hc439).trans rfl))).symm)
                                                refine own_go (mkF m 415 #[iv x0, jv x1, .second, iv x3, iv (own_bi bt0), iv (own_bi bt1), iv (own_bi bt2), iv (own_bi bt3), iv (own_bi bt4), iv (own_bi bt5), rv b1, rv b8, jv (0 : Int64), .second, jv ((0 : Int64) + ((own_bi bt0).toInt64)), .second, jv (((0 : Int64) + ((own_bi bt0).toInt64)) + ((own_bi bt1).toInt64)), .second, jv ((((0 : Int64) + ((own_bi bt0).toInt64)) + ((own_bi bt1).toInt64)) + ((own_bi bt2).toInt64)), .second, jv (((((0 : Int64) + ((own_bi bt0).toInt64)) + ((own_bi bt1).toInt64)) + ((own_bi bt2).toInt64)) + ((own_bi bt3).toInt64)), .second, jv ((((((0 : Int64) + ((own_bi bt0).toInt64)) + ((own_bi bt1).toInt64)) + ((own_bi bt2).toInt64)) + ((own_bi bt3).toInt64)) + ((own_bi bt4).toInt64)), .second, jv (((((((0 : Int64) + ((own_bi bt0).toInt64)) + ((own_bi bt1).toInt64)) + ((own_bi bt2).toInt64)) + ((own_bi bt3).toInt64)) + ((own_bi bt4).toInt64)) + ((own_bi bt5).toInt64)), .second, jv (Int64.ofNat kk.val), .second, iv ex3] [(.int (own_bi bt4))]) (fun t' k => XS.iload XK6.here hx rfl (hb hby at_413) rfl  k) ?_
                                                by_cases hc415 : (own_bi bt4) = (0 : Int32)
                                                · skip
                                                  refine own_go (mkF m 429 #[iv x0, jv x1, .second, iv x3, iv (own_bi bt0), iv (own_bi bt1), iv (own_bi bt2), iv (own_bi bt3), iv (own_bi bt4), iv (own_bi bt5), rv b1, rv b8, jv (0 : Int64), .second, jv ((0 : Int64) + ((own_bi bt0).toInt64)), .second, jv (((0 : Int64) + ((own_bi bt0).toInt64)) + ((own_bi bt1).toInt64)), .second, jv ((((0 : Int64) + ((own_bi bt0).toInt64)) + ((own_bi bt1).toInt64)) + ((own_bi bt2).toInt64)), .second, jv (((((0 : Int64) + ((own_bi bt0).toInt64)) + ((own_bi bt1).toInt64)) + ((own_bi bt2).toInt64)) + ((own_bi bt3).toInt64)), .second, jv ((((((0 : Int64) + ((own_bi bt0).toInt64)) + ((own_bi bt1).toInt64)) + ((own_bi bt2).toInt64)) + ((own_bi bt3).toInt64)) + ((own_bi bt4).toInt64)), .second, jv (((((((0 : Int64) + ((own_bi bt0).toInt64)) + ((own_bi bt1).toInt64)) + ((own_bi bt2).toInt64)) + ((own_bi bt3).toInt64)) + ((own_bi bt4).toInt64)) + ((own_bi bt5).toInt64)), .second, jv (Int64.ofNat kk.val), .second, iv ex3] []) (fun t' k => XS.ifYes XK6.here hx rfl (pc0 := 415) (pc' := 429) rfl (hb hby at_415) rfl ((if0 _ _).trans (teq hc415).1) (by decide) (by decide) k) ?_
                                                  exact JX4 (ex3) (show ex3 = own_e (own_bi bt4) (Int64.ofNat kk.val) (((((0 : Int64) + ((own_bi bt0).toInt64)) + ((own_bi bt1).toInt64)) + ((own_bi bt2).toInt64)) + ((own_bi bt3).toInt64)) (4 : Int32) ex3 from (show own_e (own_bi bt4) (Int64.ofNat kk.val) (((((0 : Int64) + ((own_bi bt0).toInt64)) + ((own_bi bt1).toInt64)) + ((own_bi bt2).toInt64)) + ((own_bi bt3).toInt64)) (4 : Int32) ex3 = ex3 from ((if_pos hc415).trans rfl)).symm)
                                                · skip
                                                  refine own_go (mkF m 418 #[iv x0, jv x1, .second, iv x3, iv (own_bi bt0), iv (own_bi bt1), iv (own_bi bt2), iv (own_bi bt3), iv (own_bi bt4), iv (own_bi bt5), rv b1, rv b8, jv (0 : Int64), .second, jv ((0 : Int64) + ((own_bi bt0).toInt64)), .second, jv (((0 : Int64) + ((own_bi bt0).toInt64)) + ((own_bi bt1).toInt64)), .second, jv ((((0 : Int64) + ((own_bi bt0).toInt64)) + ((own_bi bt1).toInt64)) + ((own_bi bt2).toInt64)), .second, jv (((((0 : Int64) + ((own_bi bt0).toInt64)) + ((own_bi bt1).toInt64)) + ((own_bi bt2).toInt64)) + ((own_bi bt3).toInt64)), .second, jv ((((((0 : Int64) + ((own_bi bt0).toInt64)) + ((own_bi bt1).toInt64)) + ((own_bi bt2).toInt64)) + ((own_bi bt3).toInt64)) + ((own_bi bt4).toInt64)), .second, jv (((((((0 : Int64) + ((own_bi bt0).toInt64)) + ((own_bi bt1).toInt64)) + ((own_bi bt2).toInt64)) + ((own_bi bt3).toInt64)) + ((own_bi bt4).toInt64)) + ((own_bi bt5).toInt64)), .second, jv (Int64.ofNat kk.val), .second, iv ex3] []) (fun t' k => XS.ifNo XK6.here hx rfl (hb hby at_415) rfl ((if0 _ _).trans (feq hc415).1) k) ?_
                                                  refine own_go (mkF m 420 #[iv x0, jv x1, .second, iv x3, iv (own_bi bt0), iv (own_bi bt1), iv (own_bi bt2), iv (own_bi bt3), iv (own_bi bt4), iv (own_bi bt5), rv b1, rv b8, jv (0 : Int64), .second, jv ((0 : Int64) + ((own_bi bt0).toInt64)), .second, jv (((0 : Int64) + ((own_bi bt0).toInt64)) + ((own_bi bt1).toInt64)), .second, jv ((((0 : Int64) + ((own_bi bt0).toInt64)) + ((own_bi bt1).toInt64)) + ((own_bi bt2).toInt64)), .second, jv (((((0 : Int64) + ((own_bi bt0).toInt64)) + ((own_bi bt1).toInt64)) + ((own_bi bt2).toInt64)) + ((own_bi bt3).toInt64)), .second, jv ((((((0 : Int64) + ((own_bi bt0).toInt64)) + ((own_bi bt1).toInt64)) + ((own_bi bt2).toInt64)) + ((own_bi bt3).toInt64)) + ((own_bi bt4).toInt64)), .second, jv (((((((0 : Int64) + ((own_bi bt0).toInt64)) + ((own_bi bt1).toInt64)) + ((own_bi bt2).toInt64)) + ((own_bi bt3).toInt64)) + ((own_bi bt4).toInt64)) + ((own_bi bt5).toInt64)), .second, jv (Int64.ofNat kk.val), .second, iv ex3] [(.long (Int64.ofNat kk.val))]) (fun t' k => XS.lload XK6.here hx rfl (hb hby at_418) rfl  k) ?_
                                                  refine own_go (mkF m 422 #[iv x0, jv x1, .second, iv x3, iv (own_bi bt0), iv (own_bi bt1), iv (own_bi bt2), iv (own_bi bt3), iv (own_bi bt4), iv (own_bi bt5), rv b1, rv b8, jv (0 : Int64), .second, jv ((0 : Int64) + ((own_bi bt0).toInt64)), .second, jv (((0 : Int64) + ((own_bi bt0).toInt64)) + ((own_bi bt1).toInt64)), .second, jv ((((0 : Int64) + ((own_bi bt0).toInt64)) + ((own_bi bt1).toInt64)) + ((own_bi bt2).toInt64)), .second, jv (((((0 : Int64) + ((own_bi bt0).toInt64)) + ((own_bi bt1).toInt64)) + ((own_bi bt2).toInt64)) + ((own_bi bt3).toInt64)), .second, jv ((((((0 : Int64) + ((own_bi bt0).toInt64)) + ((own_bi bt1).toInt64)) + ((own_bi bt2).toInt64)) + ((own_bi bt3).toInt64)) + ((own_bi bt4).toInt64)), .second, jv (((((((0 : Int64) + ((own_bi bt0).toInt64)) + ((own_bi bt1).toInt64)) + ((own_bi bt2).toInt64)) + ((own_bi bt3).toInt64)) + ((own_bi bt4).toInt64)) + ((own_bi bt5).toInt64)), .second, jv (Int64.ofNat kk.val), .second, iv ex3] [(.long (((((0 : Int64) + ((own_bi bt0).toInt64)) + ((own_bi bt1).toInt64)) + ((own_bi bt2).toInt64)) + ((own_bi bt3).toInt64))), (.long (Int64.ofNat kk.val))]) (fun t' k => XS.lload XK6.here hx rfl (hb hby at_420) rfl  k) ?_
                                                  refine own_go (mkF m 423 #[iv x0, jv x1, .second, iv x3, iv (own_bi bt0), iv (own_bi bt1), iv (own_bi bt2), iv (own_bi bt3), iv (own_bi bt4), iv (own_bi bt5), rv b1, rv b8, jv (0 : Int64), .second, jv ((0 : Int64) + ((own_bi bt0).toInt64)), .second, jv (((0 : Int64) + ((own_bi bt0).toInt64)) + ((own_bi bt1).toInt64)), .second, jv ((((0 : Int64) + ((own_bi bt0).toInt64)) + ((own_bi bt1).toInt64)) + ((own_bi bt2).toInt64)), .second, jv (((((0 : Int64) + ((own_bi bt0).toInt64)) + ((own_bi bt1).toInt64)) + ((own_bi bt2).toInt64)) + ((own_bi bt3).toInt64)), .second, jv ((((((0 : Int64) + ((own_bi bt0).toInt64)) + ((own_bi bt1).toInt64)) + ((own_bi bt2).toInt64)) + ((own_bi bt3).toInt64)) + ((own_bi bt4).toInt64)), .second, jv (((((((0 : Int64) + ((own_bi bt0).toInt64)) + ((own_bi bt1).toInt64)) + ((own_bi bt2).toInt64)) + ((own_bi bt3).toInt64)) + ((own_bi bt4).toInt64)) + ((own_bi bt5).toInt64)), .second, jv (Int64.ofNat kk.val), .second, iv ex3] [(.int (lcmpW (Int64.ofNat kk.val) (((((0 : Int64) + ((own_bi bt0).toInt64)) + ((own_bi bt1).toInt64)) + ((own_bi bt2).toInt64)) + ((own_bi bt3).toInt64))))]) (fun t' k => XS.lcmp XK6.here hx rfl (hb hby at_422) rfl k) ?_
                                                  by_cases hc423 : (Int64.ofNat kk.val) = (((((0 : Int64) + ((own_bi bt0).toInt64)) + ((own_bi bt1).toInt64)) + ((own_bi bt2).toInt64)) + ((own_bi bt3).toInt64))
                                                  · skip
                                                    refine own_go (mkF m 426 #[iv x0, jv x1, .second, iv x3, iv (own_bi bt0), iv (own_bi bt1), iv (own_bi bt2), iv (own_bi bt3), iv (own_bi bt4), iv (own_bi bt5), rv b1, rv b8, jv (0 : Int64), .second, jv ((0 : Int64) + ((own_bi bt0).toInt64)), .second, jv (((0 : Int64) + ((own_bi bt0).toInt64)) + ((own_bi bt1).toInt64)), .second, jv ((((0 : Int64) + ((own_bi bt0).toInt64)) + ((own_bi bt1).toInt64)) + ((own_bi bt2).toInt64)), .second, jv (((((0 : Int64) + ((own_bi bt0).toInt64)) + ((own_bi bt1).toInt64)) + ((own_bi bt2).toInt64)) + ((own_bi bt3).toInt64)), .second, jv ((((((0 : Int64) + ((own_bi bt0).toInt64)) + ((own_bi bt1).toInt64)) + ((own_bi bt2).toInt64)) + ((own_bi bt3).toInt64)) + ((own_bi bt4).toInt64)), .second, jv (((((((0 : Int64) + ((own_bi bt0).toInt64)) + ((own_bi bt1).toInt64)) + ((own_bi bt2).toInt64)) + ((own_bi bt3).toInt64)) + ((own_bi bt4).toInt64)) + ((own_bi bt5).toInt64)), .second, jv (Int64.ofNat kk.val), .second, iv ex3] []) (fun t' k => XS.ifNo XK6.here hx rfl (hb hby at_423) rfl ((if0 _ _).trans (teq ((lw_eq (Int64.ofNat kk.val) (((((0 : Int64) + ((own_bi bt0).toInt64)) + ((own_bi bt1).toInt64)) + ((own_bi bt2).toInt64)) + ((own_bi bt3).toInt64))).mpr hc423)).2) k) ?_
                                                    refine own_go (mkF m 427 #[iv x0, jv x1, .second, iv x3, iv (own_bi bt0), iv (own_bi bt1), iv (own_bi bt2), iv (own_bi bt3), iv (own_bi bt4), iv (own_bi bt5), rv b1, rv b8, jv (0 : Int64), .second, jv ((0 : Int64) + ((own_bi bt0).toInt64)), .second, jv (((0 : Int64) + ((own_bi bt0).toInt64)) + ((own_bi bt1).toInt64)), .second, jv ((((0 : Int64) + ((own_bi bt0).toInt64)) + ((own_bi bt1).toInt64)) + ((own_bi bt2).toInt64)), .second, jv (((((0 : Int64) + ((own_bi bt0).toInt64)) + ((own_bi bt1).toInt64)) + ((own_bi bt2).toInt64)) + ((own_bi bt3).toInt64)), .second, jv ((((((0 : Int64) + ((own_bi bt0).toInt64)) + ((own_bi bt1).toInt64)) + ((own_bi bt2).toInt64)) + ((own_bi bt3).toInt64)) + ((own_bi bt4).toInt64)), .second, jv (((((((0 : Int64) + ((own_bi bt0).toInt64)) + ((own_bi bt1).toInt64)) + ((own_bi bt2).toInt64)) + ((own_bi bt3).toInt64)) + ((own_bi bt4).toInt64)) + ((own_bi bt5).toInt64)), .second, jv (Int64.ofNat kk.val), .second, iv ex3] [(.int (4 : Int32))]) (fun t' k => XS.iconst XK6.here hx rfl (hb hby at_426) k) ?_
                                                    refine own_go (mkF m 429 #[iv x0, jv x1, .second, iv x3, iv (own_bi bt0), iv (own_bi bt1), iv (own_bi bt2), iv (own_bi bt3), iv (own_bi bt4), iv (own_bi bt5), rv b1, rv b8, jv (0 : Int64), .second, jv ((0 : Int64) + ((own_bi bt0).toInt64)), .second, jv (((0 : Int64) + ((own_bi bt0).toInt64)) + ((own_bi bt1).toInt64)), .second, jv ((((0 : Int64) + ((own_bi bt0).toInt64)) + ((own_bi bt1).toInt64)) + ((own_bi bt2).toInt64)), .second, jv (((((0 : Int64) + ((own_bi bt0).toInt64)) + ((own_bi bt1).toInt64)) + ((own_bi bt2).toInt64)) + ((own_bi bt3).toInt64)), .second, jv ((((((0 : Int64) + ((own_bi bt0).toInt64)) + ((own_bi bt1).toInt64)) + ((own_bi bt2).toInt64)) + ((own_bi bt3).toInt64)) + ((own_bi bt4).toInt64)), .second, jv (((((((0 : Int64) + ((own_bi bt0).toInt64)) + ((own_bi bt1).toInt64)) + ((own_bi bt2).toInt64)) + ((own_bi bt3).toInt64)) + ((own_bi bt4).toInt64)) + ((own_bi bt5).toInt64)), .second, jv (Int64.ofNat kk.val), .second, iv (4 : Int32)] []) (fun t' k => XS.istore XK6.here hx rfl (hb hby at_427) rfl (l' := #[iv x0, jv x1, .second, iv x3, iv (own_bi bt0), iv (own_bi bt1), iv (own_bi bt2), iv (own_bi bt3), iv (own_bi bt4), iv (own_bi bt5), rv b1, rv b8, jv (0 : Int64), .second, jv ((0 : Int64) + ((own_bi bt0).toInt64)), .second, jv (((0 : Int64) + ((own_bi bt0).toInt64)) + ((own_bi bt1).toInt64)), .second, jv ((((0 : Int64) + ((own_bi bt0).toInt64)) + ((own_bi bt1).toInt64)) + ((own_bi bt2).toInt64)), .second, jv (((((0 : Int64) + ((own_bi bt0).toInt64)) + ((own_bi bt1).toInt64)) + ((own_bi bt2).toInt64)) + ((own_bi bt3).toInt64)), .second, jv ((((((0 : Int64) + ((own_bi bt0).toInt64)) + ((own_bi bt1).toInt64)) + ((own_bi bt2).toInt64)) + ((own_bi bt3).toInt64)) + ((own_bi bt4).toInt64)), .second, jv (((((((0 : Int64) + ((own_bi bt0).toInt64)) + ((own_bi bt1).toInt64)) + ((own_bi bt2).toInt64)) + ((own_bi bt3).toInt64)) + ((own_bi bt4).toInt64)) + ((own_bi bt5).toInt64)), .second, jv (Int64.ofNat kk.val), .second, iv (4 : Int32)]) rfl k) ?_
                                                    exact JX4 ((4 : Int32)) (show (4 : Int32) = own_e (own_bi bt4) (Int64.ofNat kk.val) (((((0 : Int64) + ((own_bi bt0).toInt64)) + ((own_bi bt1).toInt64)) + ((own_bi bt2).toInt64)) + ((own_bi bt3).toInt64)) (4 : Int32) ex3 from (show own_e (own_bi bt4) (Int64.ofNat kk.val) (((((0 : Int64) + ((own_bi bt0).toInt64)) + ((own_bi bt1).toInt64)) + ((own_bi bt2).toInt64)) + ((own_bi bt3).toInt64)) (4 : Int32) ex3 = (4 : Int32) from ((if_neg hc415).trans ((if_pos hc423).trans rfl))).symm)
                                                  · skip
                                                    refine own_go (mkF m 429 #[iv x0, jv x1, .second, iv x3, iv (own_bi bt0), iv (own_bi bt1), iv (own_bi bt2), iv (own_bi bt3), iv (own_bi bt4), iv (own_bi bt5), rv b1, rv b8, jv (0 : Int64), .second, jv ((0 : Int64) + ((own_bi bt0).toInt64)), .second, jv (((0 : Int64) + ((own_bi bt0).toInt64)) + ((own_bi bt1).toInt64)), .second, jv ((((0 : Int64) + ((own_bi bt0).toInt64)) + ((own_bi bt1).toInt64)) + ((own_bi bt2).toInt64)), .second, jv (((((0 : Int64) + ((own_bi bt0).toInt64)) + ((own_bi bt1).toInt64)) + ((own_bi bt2).toInt64)) + ((own_bi bt3).toInt64)), .second, jv ((((((0 : Int64) + ((own_bi bt0).toInt64)) + ((own_bi bt1).toInt64)) + ((own_bi bt2).toInt64)) + ((own_bi bt3).toInt64)) + ((own_bi bt4).toInt64)), .second, jv (((((((0 : Int64) + ((own_bi bt0).toInt64)) + ((own_bi bt1).toInt64)) + ((own_bi bt2).toInt64)) + ((own_bi bt3).toInt64)) + ((own_bi bt4).toInt64)) + ((own_bi bt5).toInt64)), .second, jv (Int64.ofNat kk.val), .second, iv ex3] []) (fun t' k => XS.ifYes XK6.here hx rfl (pc0 := 423) (pc' := 429) rfl (hb hby at_423) rfl ((if0 _ _).trans (feq (fun q => hc423 ((lw_eq (Int64.ofNat kk.val) (((((0 : Int64) + ((own_bi bt0).toInt64)) + ((own_bi bt1).toInt64)) + ((own_bi bt2).toInt64)) + ((own_bi bt3).toInt64))).mp q))).2) (by decide) (by decide) k) ?_
                                                    exact JX4 (ex3) (show ex3 = own_e (own_bi bt4) (Int64.ofNat kk.val) (((((0 : Int64) + ((own_bi bt0).toInt64)) + ((own_bi bt1).toInt64)) + ((own_bi bt2).toInt64)) + ((own_bi bt3).toInt64)) (4 : Int32) ex3 from (show own_e (own_bi bt4) (Int64.ofNat kk.val) (((((0 : Int64) + ((own_bi bt0).toInt64)) + ((own_bi bt1).toInt64)) + ((own_bi bt2).toInt64)) + ((own_bi bt3).toInt64)) (4 : Int32) ex3 = ex3 from ((if_neg hc415).trans ((if_neg hc423).trans rfl))).symm)
                                              refine own_go (mkF m 399 #[iv x0, jv x1, .second, iv x3, iv (own_bi bt0), iv (own_bi bt1), iv (own_bi bt2), iv (own_bi bt3), iv (own_bi bt4), iv (own_bi bt5), rv b1, rv b8, jv (0 : Int64), .second, jv ((0 : Int64) + ((own_bi bt0).toInt64)), .second, jv (((0 : Int64) + ((own_bi bt0).toInt64)) + ((own_bi bt1).toInt64)), .second, jv ((((0 : Int64) + ((own_bi bt0).toInt64)) + ((own_bi bt1).toInt64)) + ((own_bi bt2).toInt64)), .second, jv (((((0 : Int64) + ((own_bi bt0).toInt64)) + ((own_bi bt1).toInt64)) + ((own_bi bt2).toInt64)) + ((own_bi bt3).toInt64)), .second, jv ((((((0 : Int64) + ((own_bi bt0).toInt64)) + ((own_bi bt1).toInt64)) + ((own_bi bt2).toInt64)) + ((own_bi bt3).toInt64)) + ((own_bi bt4).toInt64)), .second, jv (((((((0 : Int64) + ((own_bi bt0).toInt64)) + ((own_bi bt1).toInt64)) + ((own_bi bt2).toInt64)) + ((own_bi bt3).toInt64)) + ((own_bi bt4).toInt64)) + ((own_bi bt5).toInt64)), .second, jv (Int64.ofNat kk.val), .second, iv ex2] [(.int (own_bi bt3))]) (fun t' k => XS.iload XK6.here hx rfl (hb hby at_397) rfl  k) ?_
                                              by_cases hc399 : (own_bi bt3) = (0 : Int32)
                                              · skip
                                                refine own_go (mkF m 413 #[iv x0, jv x1, .second, iv x3, iv (own_bi bt0), iv (own_bi bt1), iv (own_bi bt2), iv (own_bi bt3), iv (own_bi bt4), iv (own_bi bt5), rv b1, rv b8, jv (0 : Int64), .second, jv ((0 : Int64) + ((own_bi bt0).toInt64)), .second, jv (((0 : Int64) + ((own_bi bt0).toInt64)) + ((own_bi bt1).toInt64)), .second, jv ((((0 : Int64) + ((own_bi bt0).toInt64)) + ((own_bi bt1).toInt64)) + ((own_bi bt2).toInt64)), .second, jv (((((0 : Int64) + ((own_bi bt0).toInt64)) + ((own_bi bt1).toInt64)) + ((own_bi bt2).toInt64)) + ((own_bi bt3).toInt64)), .second, jv ((((((0 : Int64) + ((own_bi bt0).toInt64)) + ((own_bi bt1).toInt64)) + ((own_bi bt2).toInt64)) + ((own_bi bt3).toInt64)) + ((own_bi bt4).toInt64)), .second, jv (((((((0 : Int64) + ((own_bi bt0).toInt64)) + ((own_bi bt1).toInt64)) + ((own_bi bt2).toInt64)) + ((own_bi bt3).toInt64)) + ((own_bi bt4).toInt64)) + ((own_bi bt5).toInt64)), .second, jv (Int64.ofNat kk.val), .second, iv ex2] []) (fun t' k => XS.ifYes XK6.here hx rfl (pc0 := 399) (pc' := 413) rfl (hb hby at_399) rfl ((if0 _ _).trans (teq hc399).1) (by decide) (by decide) k) ?_
                                                exact JX3 (ex2) (show ex2 = own_e (own_bi bt3) (Int64.ofNat kk.val) ((((0 : Int64) + ((own_bi bt0).toInt64)) + ((own_bi bt1).toInt64)) + ((own_bi bt2).toInt64)) (3 : Int32) ex2 from (show own_e (own_bi bt3) (Int64.ofNat kk.val) ((((0 : Int64) + ((own_bi bt0).toInt64)) + ((own_bi bt1).toInt64)) + ((own_bi bt2).toInt64)) (3 : Int32) ex2 = ex2 from ((if_pos hc399).trans rfl)).symm)
                                              · skip
                                                refine own_go (mkF m 402 #[iv x0, jv x1, .second, iv x3, iv (own_bi bt0), iv (own_bi bt1), iv (own_bi bt2), iv (own_bi bt3), iv (own_bi bt4), iv (own_bi bt5), rv b1, rv b8, jv (0 : Int64), .second, jv ((0 : Int64) + ((own_bi bt0).toInt64)), .second, jv (((0 : Int64) + ((own_bi bt0).toInt64)) + ((own_bi bt1).toInt64)), .second, jv ((((0 : Int64) + ((own_bi bt0).toInt64)) + ((own_bi bt1).toInt64)) + ((own_bi bt2).toInt64)), .second, jv (((((0 : Int64) + ((own_bi bt0).toInt64)) + ((own_bi bt1).toInt64)) + ((own_bi bt2).toInt64)) + ((own_bi bt3).toInt64)), .second, jv ((((((0 : Int64) + ((own_bi bt0).toInt64)) + ((own_bi bt1).toInt64)) + ((own_bi bt2).toInt64)) + ((own_bi bt3).toInt64)) + ((own_bi bt4).toInt64)), .second, jv (((((((0 : Int64) + ((own_bi bt0).toInt64)) + ((own_bi bt1).toInt64)) + ((own_bi bt2).toInt64)) + ((own_bi bt3).toInt64)) + ((own_bi bt4).toInt64)) + ((own_bi bt5).toInt64)), .second, jv (Int64.ofNat kk.val), .second, iv ex2] []) (fun t' k => XS.ifNo XK6.here hx rfl (hb hby at_399) rfl ((if0 _ _).trans (feq hc399).1) k) ?_
                                                refine own_go (mkF m 404 #[iv x0, jv x1, .second, iv x3, iv (own_bi bt0), iv (own_bi bt1), iv (own_bi bt2), iv (own_bi bt3), iv (own_bi bt4), iv (own_bi bt5), rv b1, rv b8, jv (0 : Int64), .second, jv ((0 : Int64) + ((own_bi bt0).toInt64)), .second, jv (((0 : Int64) + ((own_bi bt0).toInt64)) + ((own_bi bt1).toInt64)), .second, jv ((((0 : Int64) + ((own_bi bt0).toInt64)) + ((own_bi bt1).toInt64)) + ((own_bi bt2).toInt64)), .second, jv (((((0 : Int64) + ((own_bi bt0).toInt64)) + ((own_bi bt1).toInt64)) + ((own_bi bt2).toInt64)) + ((own_bi bt3).toInt64)), .second, jv ((((((0 : Int64) + ((own_bi bt0).toInt64)) + ((own_bi bt1).toInt64)) + ((own_bi bt2).toInt64)) + ((own_bi bt3).toInt64)) + ((own_bi bt4).toInt64)), .second, jv (((((((0 : Int64) + ((own_bi bt0).toInt64)) + ((own_bi bt1).toInt64)) + ((own_bi bt2).toInt64)) + ((own_bi bt3).toInt64)) + ((own_bi bt4).toInt64)) + ((own_bi bt5).toInt64)), .second, jv (Int64.ofNat kk.val), .second, iv ex2] [(.long (Int64.ofNat kk.val))]) (fun t' k => XS.lload XK6.here hx rfl (hb hby at_402) rfl  k) ?_
                                                refine own_go (mkF m 406 #[iv x0, jv x1, .second, iv x3, iv (own_bi bt0), iv (own_bi bt1), iv (own_bi bt2), iv (own_bi bt3), iv (own_bi bt4), iv (own_bi bt5), rv b1, rv b8, jv (0 : Int64), .second, jv ((0 : Int64) + ((own_bi bt0).toInt64)), .second, jv (((0 : Int64) + ((own_bi bt0).toInt64)) + ((own_bi bt1).toInt64)), .second, jv ((((0 : Int64) + ((own_bi bt0).toInt64)) + ((own_bi bt1).toInt64)) + ((own_bi bt2).toInt64)), .second, jv (((((0 : Int64) + ((own_bi bt0).toInt64)) + ((own_bi bt1).toInt64)) + ((own_bi bt2).toInt64)) + ((own_bi bt3).toInt64)), .second, jv ((((((0 : Int64) + ((own_bi bt0).toInt64)) + ((own_bi bt1).toInt64)) + ((own_bi bt2).toInt64)) + ((own_bi bt3).toInt64)) + ((own_bi bt4).toInt64)), .second, jv (((((((0 : Int64) + ((own_bi bt0).toInt64)) + ((own_bi bt1).toInt64)) + ((own_bi bt2).toInt64)) + ((own_bi bt3).toInt64)) + ((own_bi bt4).toInt64)) + ((own_bi bt5).toInt64)), .second, jv (Int64.ofNat kk.val), .second, iv ex2] [(.long ((((0 : Int64) + ((own_bi bt0).toInt64)) + ((own_bi bt1).toInt64)) + ((own_bi bt2).toInt64))), (.long (Int64.ofNat kk.val))]) (fun t' k => XS.lload XK6.here hx rfl (hb hby at_404) rfl  k) ?_
                                                refine own_go (mkF m 407 #[iv x0, jv x1, .second, iv x3, iv (own_bi bt0), iv (own_bi bt1), iv (own_bi bt2), iv (own_bi bt3), iv (own_bi bt4), iv (own_bi bt5), rv b1, rv b8, jv (0 : Int64), .second, jv ((0 : Int64) + ((own_bi bt0).toInt64)), .second, jv (((0 : Int64) + ((own_bi bt0).toInt64)) + ((own_bi bt1).toInt64)), .second, jv ((((0 : Int64) + ((own_bi bt0).toInt64)) + ((own_bi bt1).toInt64)) + ((own_bi bt2).toInt64)), .second, jv (((((0 : Int64) + ((own_bi bt0).toInt64)) + ((own_bi bt1).toInt64)) + ((own_bi bt2).toInt64)) + ((own_bi bt3).toInt64)), .second, jv ((((((0 : Int64) + ((own_bi bt0).toInt64)) + ((own_bi bt1).toInt64)) + ((own_bi bt2).toInt64)) + ((own_bi bt3).toInt64)) + ((own_bi bt4).toInt64)), .second, jv (((((((0 : Int64) + ((own_bi bt0).toInt64)) + ((own_bi bt1).toInt64)) + ((own_bi bt2).toInt64)) + ((own_bi bt3).toInt64)) + ((own_bi bt4).toInt64)) + ((own_bi bt5).toInt64)), .second, jv (Int64.ofNat kk.val), .second, iv ex2] [(.int (lcmpW (Int64.ofNat kk.val) ((((0 : Int64) + ((own_bi bt0).toInt64)) + ((own_bi bt1).toInt64)) + ((own_bi bt2).toInt64))))]) (fun t' k => XS.lcmp XK6.here hx rfl (hb hby at_406) rfl k) ?_
                                                by_cases hc407 : (Int64.ofNat kk.val) = ((((0 : Int64) + ((own_bi bt0).toInt64)) + ((own_bi bt1).toInt64)) + ((own_bi bt2).toInt64))
                                                · skip
                                                  refine own_go (mkF m 410 #[iv x0, jv x1, .second, iv x3, iv (own_bi bt0), iv (own_bi bt1), iv (own_bi bt2), iv (own_bi bt3), iv (own_bi bt4), iv (own_bi bt5), rv b1, rv b8, jv (0 : Int64), .second, jv ((0 : Int64) + ((own_bi bt0).toInt64)), .second, jv (((0 : Int64) + ((own_bi bt0).toInt64)) + ((own_bi bt1).toInt64)), .second, jv ((((0 : Int64) + ((own_bi bt0).toInt64)) + ((own_bi bt1).toInt64)) + ((own_bi bt2).toInt64)), .second, jv (((((0 : Int64) + ((own_bi bt0).toInt64)) + ((own_bi bt1).toInt64)) + ((own_bi bt2).toInt64)) + ((own_bi bt3).toInt64)), .second, jv ((((((0 : Int64) + ((own_bi bt0).toInt64)) + ((own_bi bt1).toInt64)) + ((own_bi bt2).toInt64)) + ((own_bi bt3).toInt64)) + ((own_bi bt4).toInt64)), .second, jv (((((((0 : Int64) + ((own_bi bt0).toInt64)) + ((own_bi bt1).toInt64)) + ((own_bi bt2).toInt64)) + ((own_bi bt3).toInt64)) + ((own_bi bt4).toInt64)) + ((own_bi bt5).toInt64)), .second, jv (Int64.ofNat kk.val), .second, iv ex2] []) (fun t' k => XS.ifNo XK6.here hx rfl (hb hby at_407) rfl ((if0 _ _).trans (teq ((lw_eq (Int64.ofNat kk.val) ((((0 : Int64) + ((own_bi bt0).toInt64)) + ((own_bi bt1).toInt64)) + ((own_bi bt2).toInt64))).mpr hc407)).2) k) ?_
                                                  refine own_go (mkF m 411 #[iv x0, jv x1, .second, iv x3, iv (own_bi bt0), iv (own_bi bt1), iv (own_bi bt2), iv (own_bi bt3), iv (own_bi bt4), iv (own_bi bt5), rv b1, rv b8, jv (0 : Int64), .second, jv ((0 : Int64) + ((own_bi bt0).toInt64)), .second, jv (((0 : Int64) + ((own_bi bt0).toInt64)) + ((own_bi bt1).toInt64)), .second, jv ((((0 : Int64) + ((own_bi bt0).toInt64)) + ((own_bi bt1).toInt64)) + ((own_bi bt2).toInt64)), .second, jv (((((0 : Int64) + ((own_bi bt0).toInt64)) + ((own_bi bt1).toInt64)) + ((own_bi bt2).toInt64)) + ((own_bi bt3).toInt64)), .second, jv ((((((0 : Int64) + ((own_bi bt0).toInt64)) + ((own_bi bt1).toInt64)) + ((own_bi bt2).toInt64)) + ((own_bi bt3).toInt64)) + ((own_bi bt4).toInt64)), .second, jv (((((((0 : Int64) + ((own_bi bt0).toInt64)) + ((own_bi bt1).toInt64)) + ((own_bi bt2).toInt64)) + ((own_bi bt3).toInt64)) + ((own_bi bt4).toInt64)) + ((own_bi bt5).toInt64)), .second, jv (Int64.ofNat kk.val), .second, iv ex2] [(.int (3 : Int32))]) (fun t' k => XS.iconst XK6.here hx rfl (hb hby at_410) k) ?_
                                                  refine own_go (mkF m 413 #[iv x0, jv x1, .second, iv x3, iv (own_bi bt0), iv (own_bi bt1), iv (own_bi bt2), iv (own_bi bt3), iv (own_bi bt4), iv (own_bi bt5), rv b1, rv b8, jv (0 : Int64), .second, jv ((0 : Int64) + ((own_bi bt0).toInt64)), .second, jv (((0 : Int64) + ((own_bi bt0).toInt64)) + ((own_bi bt1).toInt64)), .second, jv ((((0 : Int64) + ((own_bi bt0).toInt64)) + ((own_bi bt1).toInt64)) + ((own_bi bt2).toInt64)), .second, jv (((((0 : Int64) + ((own_bi bt0).toInt64)) + ((own_bi bt1).toInt64)) + ((own_bi bt2).toInt64)) + ((own_bi bt3).toInt64)), .second, jv ((((((0 : Int64) + ((own_bi bt0).toInt64)) + ((own_bi bt1).toInt64)) + ((own_bi bt2).toInt64)) + ((own_bi bt3).toInt64)) + ((own_bi bt4).toInt64)), .second, jv (((((((0 : Int64) + ((own_bi bt0).toInt64)) + ((own_bi bt1).toInt64)) + ((own_bi bt2).toInt64)) + ((own_bi bt3).toInt64)) + ((own_bi bt4).toInt64)) + ((own_bi bt5).toInt64)), .second, jv (Int64.ofNat kk.val), .second, iv (3 : Int32)] []) (fun t' k => XS.istore XK6.here hx rfl (hb hby at_411) rfl (l' := #[iv x0, jv x1, .second, iv x3, iv (own_bi bt0), iv (own_bi bt1), iv (own_bi bt2), iv (own_bi bt3), iv (own_bi bt4), iv (own_bi bt5), rv b1, rv b8, jv (0 : Int64), .second, jv ((0 : Int64) + ((own_bi bt0).toInt64)), .second, jv (((0 : Int64) + ((own_bi bt0).toInt64)) + ((own_bi bt1).toInt64)), .second, jv ((((0 : Int64) + ((own_bi bt0).toInt64)) + ((own_bi bt1).toInt64)) + ((own_bi bt2).toInt64)), .second, jv (((((0 : Int64) + ((own_bi bt0).toInt64)) + ((own_bi bt1).toInt64)) + ((own_bi bt2).toInt64)) + ((own_bi bt3).toInt64)), .second, jv ((((((0 : Int64) + ((own_bi bt0).toInt64)) + ((own_bi bt1).toInt64)) + ((own_bi bt2).toInt64)) + ((own_bi bt3).toInt64)) + ((own_bi bt4).toInt64)), .second, jv (((((((0 : Int64) + ((own_bi bt0).toInt64)) + ((own_bi bt1).toInt64)) + ((own_bi bt2).toInt64)) + ((own_bi bt3).toInt64)) + ((own_bi bt4).toInt64)) + ((own_bi bt5).toInt64)), .second, jv (Int64.ofNat kk.val), .second, iv (3 : Int32)]) rfl k) ?_
                                                  exact JX3 ((3 : Int32)) (show (3 : Int32) = own_e (own_bi bt3) (Int64.ofNat kk.val) ((((0 : Int64) + ((own_bi bt0).toInt64)) + ((own_bi bt1).toInt64)) + ((own_bi bt2).toInt64)) (3 : Int32) ex2 from (show own_e (own_bi bt3) (Int64.ofNat kk.val) ((((0 : Int64) + ((own_bi bt0).toInt64)) + ((own_bi bt1).toInt64)) + ((own_bi bt2).toInt64)) (3 : Int32) ex2 = (3 : Int32) from ((if_neg hc399).trans ((if_pos hc407).trans rfl))).symm)
                                                · skip
                                                  refine own_go (mkF m 413 #[iv x0, jv x1, .second, iv x3, iv (own_bi bt0), iv (own_bi bt1), iv (own_bi bt2), iv (own_bi bt3), iv (own_bi bt4), iv (own_bi bt5), rv b1, rv b8, jv (0 : Int64), .second, jv ((0 : Int64) + ((own_bi bt0).toInt64)), .second, jv (((0 : Int64) + ((own_bi bt0).toInt64)) + ((own_bi bt1).toInt64)), .second, jv ((((0 : Int64) + ((own_bi bt0).toInt64)) + ((own_bi bt1).toInt64)) + ((own_bi bt2).toInt64)), .second, jv (((((0 : Int64) + ((own_bi bt0).toInt64)) + ((own_bi bt1).toInt64)) + ((own_bi bt2).toInt64)) + ((own_bi bt3).toInt64)), .second, jv ((((((0 : Int64) + ((own_bi bt0).toInt64)) + ((own_bi bt1).toInt64)) + ((own_bi bt2).toInt64)) + ((own_bi bt3).toInt64)) + ((own_bi bt4).toInt64)), .second, jv (((((((0 : Int64) + ((own_bi bt0).toInt64)) + ((own_bi bt1).toInt64)) + ((own_bi bt2).toInt64)) + ((own_bi bt3).toInt64)) + ((own_bi bt4).toInt64)) + ((own_bi bt5).toInt64)), .second, jv (Int64.ofNat kk.val), .second, iv ex2] []) (fun t' k => XS.ifYes XK6.here hx rfl (pc0 := 407) (pc' := 413) rfl (hb hby at_407) rfl ((if0 _ _).trans (feq (fun q => hc407 ((lw_eq (Int64.ofNat kk.val) ((((0 : Int64) + ((own_bi bt0).toInt64)) + ((own_bi bt1).toInt64)) + ((own_bi bt2).toInt64))).mp q))).2) (by decide) (by decide) k) ?_
                                                  exact JX3 (ex2) (show ex2 = own_e (own_bi bt3) (Int64.ofNat kk.val) ((((0 : Int64) + ((own_bi bt0).toInt64)) + ((own_bi bt1).toInt64)) + ((own_bi bt2).toInt64)) (3 : Int32) ex2 from (show own_e (own_bi bt3) (Int64.ofNat kk.val) ((((0 : Int64) + ((own_bi bt0).toInt64)) + ((own_bi bt1).toInt64)) + ((own_bi bt2).toInt64)) (3 : Int32) ex2 = ex2 from ((if_neg hc399).trans ((if_neg hc407).trans rfl))).symm)
                                            refine own_go (mkF m 383 #[iv x0, jv x1, .second, iv x3, iv (own_bi bt0), iv (own_bi bt1), iv (own_bi bt2), iv (own_bi bt3), iv (own_bi bt4), iv (own_bi bt5), rv b1, rv b8, jv (0 : Int64), .second, jv ((0 : Int64) + ((own_bi bt0).toInt64)), .second, jv (((0 : Int64) + ((own_bi bt0).toInt64)) + ((own_bi bt1).toInt64)), .second, jv ((((0 : Int64) + ((own_bi bt0).toInt64)) + ((own_bi bt1).toInt64)) + ((own_bi bt2).toInt64)), .second, jv (((((0 : Int64) + ((own_bi bt0).toInt64)) + ((own_bi bt1).toInt64)) + ((own_bi bt2).toInt64)) + ((own_bi bt3).toInt64)), .second, jv ((((((0 : Int64) + ((own_bi bt0).toInt64)) + ((own_bi bt1).toInt64)) + ((own_bi bt2).toInt64)) + ((own_bi bt3).toInt64)) + ((own_bi bt4).toInt64)), .second, jv (((((((0 : Int64) + ((own_bi bt0).toInt64)) + ((own_bi bt1).toInt64)) + ((own_bi bt2).toInt64)) + ((own_bi bt3).toInt64)) + ((own_bi bt4).toInt64)) + ((own_bi bt5).toInt64)), .second, jv (Int64.ofNat kk.val), .second, iv ex1] [(.int (own_bi bt2))]) (fun t' k => XS.iload XK6.here hx rfl (hb hby at_381) rfl  k) ?_
                                            by_cases hc383 : (own_bi bt2) = (0 : Int32)
                                            · skip
                                              refine own_go (mkF m 397 #[iv x0, jv x1, .second, iv x3, iv (own_bi bt0), iv (own_bi bt1), iv (own_bi bt2), iv (own_bi bt3), iv (own_bi bt4), iv (own_bi bt5), rv b1, rv b8, jv (0 : Int64), .second, jv ((0 : Int64) + ((own_bi bt0).toInt64)), .second, jv (((0 : Int64) + ((own_bi bt0).toInt64)) + ((own_bi bt1).toInt64)), .second, jv ((((0 : Int64) + ((own_bi bt0).toInt64)) + ((own_bi bt1).toInt64)) + ((own_bi bt2).toInt64)), .second, jv (((((0 : Int64) + ((own_bi bt0).toInt64)) + ((own_bi bt1).toInt64)) + ((own_bi bt2).toInt64)) + ((own_bi bt3).toInt64)), .second, jv ((((((0 : Int64) + ((own_bi bt0).toInt64)) + ((own_bi bt1).toInt64)) + ((own_bi bt2).toInt64)) + ((own_bi bt3).toInt64)) + ((own_bi bt4).toInt64)), .second, jv (((((((0 : Int64) + ((own_bi bt0).toInt64)) + ((own_bi bt1).toInt64)) + ((own_bi bt2).toInt64)) + ((own_bi bt3).toInt64)) + ((own_bi bt4).toInt64)) + ((own_bi bt5).toInt64)), .second, jv (Int64.ofNat kk.val), .second, iv ex1] []) (fun t' k => XS.ifYes XK6.here hx rfl (pc0 := 383) (pc' := 397) rfl (hb hby at_383) rfl ((if0 _ _).trans (teq hc383).1) (by decide) (by decide) k) ?_
                                              exact JX2 (ex1) (show ex1 = own_e (own_bi bt2) (Int64.ofNat kk.val) (((0 : Int64) + ((own_bi bt0).toInt64)) + ((own_bi bt1).toInt64)) (2 : Int32) ex1 from (show own_e (own_bi bt2) (Int64.ofNat kk.val) (((0 : Int64) + ((own_bi bt0).toInt64)) + ((own_bi bt1).toInt64)) (2 : Int32) ex1 = ex1 from ((if_pos hc383).trans rfl)).symm)
                                            · skip
                                              refine own_go (mkF m 386 #[iv x0, jv x1, .second, iv x3, iv (own_bi bt0), iv (own_bi bt1), iv (own_bi bt2), iv (own_bi bt3), iv (own_bi bt4), iv (own_bi bt5), rv b1, rv b8, jv (0 : Int64), .second, jv ((0 : Int64) + ((own_bi bt0).toInt64)), .second, jv (((0 : Int64) + ((own_bi bt0).toInt64)) + ((own_bi bt1).toInt64)), .second, jv ((((0 : Int64) + ((own_bi bt0).toInt64)) + ((own_bi bt1).toInt64)) + ((own_bi bt2).toInt64)), .second, jv (((((0 : Int64) + ((own_bi bt0).toInt64)) + ((own_bi bt1).toInt64)) + ((own_bi bt2).toInt64)) + ((own_bi bt3).toInt64)), .second, jv ((((((0 : Int64) + ((own_bi bt0).toInt64)) + ((own_bi bt1).toInt64)) + ((own_bi bt2).toInt64)) + ((own_bi bt3).toInt64)) + ((own_bi bt4).toInt64)), .second, jv (((((((0 : Int64) + ((own_bi bt0).toInt64)) + ((own_bi bt1).toInt64)) + ((own_bi bt2).toInt64)) + ((own_bi bt3).toInt64)) + ((own_bi bt4).toInt64)) + ((own_bi bt5).toInt64)), .second, jv (Int64.ofNat kk.val), .second, iv ex1] []) (fun t' k => XS.ifNo XK6.here hx rfl (hb hby at_383) rfl ((if0 _ _).trans (feq hc383).1) k) ?_
                                              refine own_go (mkF m 388 #[iv x0, jv x1, .second, iv x3, iv (own_bi bt0), iv (own_bi bt1), iv (own_bi bt2), iv (own_bi bt3), iv (own_bi bt4), iv (own_bi bt5), rv b1, rv b8, jv (0 : Int64), .second, jv ((0 : Int64) + ((own_bi bt0).toInt64)), .second, jv (((0 : Int64) + ((own_bi bt0).toInt64)) + ((own_bi bt1).toInt64)), .second, jv ((((0 : Int64) + ((own_bi bt0).toInt64)) + ((own_bi bt1).toInt64)) + ((own_bi bt2).toInt64)), .second, jv (((((0 : Int64) + ((own_bi bt0).toInt64)) + ((own_bi bt1).toInt64)) + ((own_bi bt2).toInt64)) + ((own_bi bt3).toInt64)), .second, jv ((((((0 : Int64) + ((own_bi bt0).toInt64)) + ((own_bi bt1).toInt64)) + ((own_bi bt2).toInt64)) + ((own_bi bt3).toInt64)) + ((own_bi bt4).toInt64)), .second, jv (((((((0 : Int64) + ((own_bi bt0).toInt64)) + ((own_bi bt1).toInt64)) + ((own_bi bt2).toInt64)) + ((own_bi bt3).toInt64)) + ((own_bi bt4).toInt64)) + ((own_bi bt5).toInt64)), .second, jv (Int64.ofNat kk.val), .second, iv ex1] [(.long (Int64.ofNat kk.val))]) (fun t' k => XS.lload XK6.here hx rfl (hb hby at_386) rfl  k) ?_
                                              refine own_go (mkF m 390 #[iv x0, jv x1, .second, iv x3, iv (own_bi bt0), iv (own_bi bt1), iv (own_bi bt2), iv (own_bi bt3), iv (own_bi bt4), iv (own_bi bt5), rv b1, rv b8, jv (0 : Int64), .second, jv ((0 : Int64) + ((own_bi bt0).toInt64)), .second, jv (((0 : Int64) + ((own_bi bt0).toInt64)) + ((own_bi bt1).toInt64)), .second, jv ((((0 : Int64) + ((own_bi bt0).toInt64)) + ((own_bi bt1).toInt64)) + ((own_bi bt2).toInt64)), .second, jv (((((0 : Int64) + ((own_bi bt0).toInt64)) + ((own_bi bt1).toInt64)) + ((own_bi bt2).toInt64)) + ((own_bi bt3).toInt64)), .second, jv ((((((0 : Int64) + ((own_bi bt0).toInt64)) + ((own_bi bt1).toInt64)) + ((own_bi bt2).toInt64)) + ((own_bi bt3).toInt64)) + ((own_bi bt4).toInt64)), .second, jv (((((((0 : Int64) + ((own_bi bt0).toInt64)) + ((own_bi bt1).toInt64)) + ((own_bi bt2).toInt64)) + ((own_bi bt3).toInt64)) + ((own_bi bt4).toInt64)) + ((own_bi bt5).toInt64)), .second, jv (Int64.ofNat kk.val), .second, iv ex1] [(.long (((0 : Int64) + ((own_bi bt0).toInt64)) + ((own_bi bt1).toInt64))), (.long (Int64.ofNat kk.val))]) (fun t' k => XS.lload XK6.here hx rfl (hb hby at_388) rfl  k) ?_
                                              refine own_go (mkF m 391 #[iv x0, jv x1, .second, iv x3, iv (own_bi bt0), iv (own_bi bt1), iv (own_bi bt2), iv (own_bi bt3), iv (own_bi bt4), iv (own_bi bt5), rv b1, rv b8, jv (0 : Int64), .second, jv ((0 : Int64) + ((own_bi bt0).toInt64)), .second, jv (((0 : Int64) + ((own_bi bt0).toInt64)) + ((own_bi bt1).toInt64)), .second, jv ((((0 : Int64) + ((own_bi bt0).toInt64)) + ((own_bi bt1).toInt64)) + ((own_bi bt2).toInt64)), .second, jv (((((0 : Int64) + ((own_bi bt0).toInt64)) + ((own_bi bt1).toInt64)) + ((own_bi bt2).toInt64)) + ((own_bi bt3).toInt64)), .second, jv ((((((0 : Int64) + ((own_bi bt0).toInt64)) + ((own_bi bt1).toInt64)) + ((own_bi bt2).toInt64)) + ((own_bi bt3).toInt64)) + ((own_bi bt4).toInt64)), .second, jv (((((((0 : Int64) + ((own_bi bt0).toInt64)) + ((own_bi bt1).toInt64)) + ((own_bi bt2).toInt64)) + ((own_bi bt3).toInt64)) + ((own_bi bt4).toInt64)) + ((own_bi bt5).toInt64)), .second, jv (Int64.ofNat kk.val), .second, iv ex1] [(.int (lcmpW (Int64.ofNat kk.val) (((0 : Int64) + ((own_bi bt0).toInt64)) + ((own_bi bt1).toInt64))))]) (fun t' k => XS.lcmp XK6.here hx rfl (hb hby at_390) rfl k) ?_
                                              by_cases hc391 : (Int64.ofNat kk.val) = (((0 : Int64) + ((own_bi bt0).toInt64)) + ((own_bi bt1).toInt64))
                                              · skip
                                                refine own_go (mkF m 394 #[iv x0, jv x1, .second, iv x3, iv (own_bi bt0), iv (own_bi bt1), iv (own_bi bt2), iv (own_bi bt3), iv (own_bi bt4), iv (own_bi bt5), rv b1, rv b8, jv (0 : Int64), .second, jv ((0 : Int64) + ((own_bi bt0).toInt64)), .second, jv (((0 : Int64) + ((own_bi bt0).toInt64)) + ((own_bi bt1).toInt64)), .second, jv ((((0 : Int64) + ((own_bi bt0).toInt64)) + ((own_bi bt1).toInt64)) + ((own_bi bt2).toInt64)), .second, jv (((((0 : Int64) + ((own_bi bt0).toInt64)) + ((own_bi bt1).toInt64)) + ((own_bi bt2).toInt64)) + ((own_bi bt3).toInt64)), .second, jv ((((((0 : Int64) + ((own_bi bt0).toInt64)) + ((own_bi bt1).toInt64)) + ((own_bi bt2).toInt64)) + ((own_bi bt3).toInt64)) + ((own_bi bt4).toInt64)), .second, jv (((((((0 : Int64) + ((own_bi bt0).toInt64)) + ((own_bi bt1).toInt64)) + ((own_bi bt2).toInt64)) + ((own_bi bt3).toInt64)) + ((own_bi bt4).toInt64)) + ((own_bi bt5).toInt64)), .second, jv (Int64.ofNat kk.val), .second, iv ex1] []) (fun t' k => XS.ifNo XK6.here hx rfl (hb hby at_391) rfl ((if0 _ _).trans (teq ((lw_eq (Int64.ofNat kk.val) (((0 : Int64) + ((own_bi bt0).toInt64)) + ((own_bi bt1).toInt64))).mpr hc391)).2) k) ?_
                                                refine own_go (mkF m 395 #[iv x0, jv x1, .second, iv x3, iv (own_bi bt0), iv (own_bi bt1), iv (own_bi bt2), iv (own_bi bt3), iv (own_bi bt4), iv (own_bi bt5), rv b1, rv b8, jv (0 : Int64), .second, jv ((0 : Int64) + ((own_bi bt0).toInt64)), .second, jv (((0 : Int64) + ((own_bi bt0).toInt64)) + ((own_bi bt1).toInt64)), .second, jv ((((0 : Int64) + ((own_bi bt0).toInt64)) + ((own_bi bt1).toInt64)) + ((own_bi bt2).toInt64)), .second, jv (((((0 : Int64) + ((own_bi bt0).toInt64)) + ((own_bi bt1).toInt64)) + ((own_bi bt2).toInt64)) + ((own_bi bt3).toInt64)), .second, jv ((((((0 : Int64) + ((own_bi bt0).toInt64)) + ((own_bi bt1).toInt64)) + ((own_bi bt2).toInt64)) + ((own_bi bt3).toInt64)) + ((own_bi bt4).toInt64)), .second, jv (((((((0 : Int64) + ((own_bi bt0).toInt64)) + ((own_bi bt1).toInt64)) + ((own_bi bt2).toInt64)) + ((own_bi bt3).toInt64)) + ((own_bi bt4).toInt64)) + ((own_bi bt5).toInt64)), .second, jv (Int64.ofNat kk.val), .second, iv ex1] [(.int (2 : Int32))]) (fun t' k => XS.iconst XK6.here hx rfl (hb hby at_394) k) ?_
                                                refine own_go (mkF m 397 #[iv x0, jv x1, .second, iv x3, iv (own_bi bt0), iv (own_bi bt1), iv (own_bi bt2), iv (own_bi bt3), iv (own_bi bt4), iv (own_bi bt5), rv b1, rv b8, jv (0 : Int64), .second, jv ((0 : Int64) + ((own_bi bt0).toInt64)), .second, jv (((0 : Int64) + ((own_bi bt0).toInt64)) + ((own_bi bt1).toInt64)), .second, jv ((((0 : Int64) + ((own_bi bt0).toInt64)) + ((own_bi bt1).toInt64)) + ((own_bi bt2).toInt64)), .second, jv (((((0 : Int64) + ((own_bi bt0).toInt64)) + ((own_bi bt1).toInt64)) + ((own_bi bt2).toInt64)) + ((own_bi bt3).toInt64)), .second, jv ((((((0 : Int64) + ((own_bi bt0).toInt64)) + ((own_bi bt1).toInt64)) + ((own_bi bt2).toInt64)) + ((own_bi bt3).toInt64)) + ((own_bi bt4).toInt64)), .second, jv (((((((0 : Int64) + ((own_bi bt0).toInt64)) + ((own_bi bt1).toInt64)) + ((own_bi bt2).toInt64)) + ((own_bi bt3).toInt64)) + ((own_bi bt4).toInt64)) + ((own_bi bt5).toInt64)), .second, jv (Int64.ofNat kk.val), .second, iv (2 : Int32)] []) (fun t' k => XS.istore XK6.here hx rfl (hb hby at_395) rfl (l' := #[iv x0, jv x1, .second, iv x3, iv (own_bi bt0), iv (own_bi bt1), iv (own_bi bt2), iv (own_bi bt3), iv (own_bi bt4), iv (own_bi bt5), rv b1, rv b8, jv (0 : Int64), .second, jv ((0 : Int64) + ((own_bi bt0).toInt64)), .second, jv (((0 : Int64) + ((own_bi bt0).toInt64)) + ((own_bi bt1).toInt64)), .second, jv ((((0 : Int64) + ((own_bi bt0).toInt64)) + ((own_bi bt1).toInt64)) + ((own_bi bt2).toInt64)), .second, jv (((((0 : Int64) + ((own_bi bt0).toInt64)) + ((own_bi bt1).toInt64)) + ((own_bi bt2).toInt64)) + ((own_bi bt3).toInt64)), .second, jv ((((((0 : Int64) + ((own_bi bt0).toInt64)) + ((own_bi bt1).toInt64)) + ((own_bi bt2).toInt64)) + ((own_bi bt3).toInt64)) + ((own_bi bt4).toInt64)), .second, jv (((((((0 : Int64) + ((own_bi bt0).toInt64)) + ((own_bi bt1).toInt64)) + ((own_bi bt2).toInt64)) + ((own_bi bt3).toInt64)) + ((own_bi bt4).toInt64)) + ((own_bi bt5).toInt64)), .second, jv (Int64.ofNat kk.val), .second, iv (2 : Int32)]) rfl k) ?_
                                                exact JX2 ((2 : Int32)) (show (2 : Int32) = own_e (own_bi bt2) (Int64.ofNat kk.val) (((0 : Int64) + ((own_bi bt0).toInt64)) + ((own_bi bt1).toInt64)) (2 : Int32) ex1 from (show own_e (own_bi bt2) (Int64.ofNat kk.val) (((0 : Int64) + ((own_bi bt0).toInt64)) + ((own_bi bt1).toInt64)) (2 : Int32) ex1 = (2 : Int32) from ((if_neg hc383).trans ((if_pos hc391).trans rfl))).symm)
                                              · skip
                                                refine own_go (mkF m 397 #[iv x0, jv x1, .second, iv x3, iv (own_bi bt0), iv (own_bi bt1), iv (own_bi bt2), iv (own_bi bt3), iv (own_bi bt4), iv (own_bi bt5), rv b1, rv b8, jv (0 : Int64), .second, jv ((0 : Int64) + ((own_bi bt0).toInt64)), .second, jv (((0 : Int64) + ((own_bi bt0).toInt64)) + ((own_bi bt1).toInt64)), .second, jv ((((0 : Int64) + ((own_bi bt0).toInt64)) + ((own_bi bt1).toInt64)) + ((own_bi bt2).toInt64)), .second, jv (((((0 : Int64) + ((own_bi bt0).toInt64)) + ((own_bi bt1).toInt64)) + ((own_bi bt2).toInt64)) + ((own_bi bt3).toInt64)), .second, jv ((((((0 : Int64) + ((own_bi bt0).toInt64)) + ((own_bi bt1).toInt64)) + ((own_bi bt2).toInt64)) + ((own_bi bt3).toInt64)) + ((own_bi bt4).toInt64)), .second, jv (((((((0 : Int64) + ((own_bi bt0).toInt64)) + ((own_bi bt1).toInt64)) + ((own_bi bt2).toInt64)) + ((own_bi bt3).toInt64)) + ((own_bi bt4).toInt64)) + ((own_bi bt5).toInt64)), .second, jv (Int64.ofNat kk.val), .second, iv ex1] []) (fun t' k => XS.ifYes XK6.here hx rfl (pc0 := 391) (pc' := 397) rfl (hb hby at_391) rfl ((if0 _ _).trans (feq (fun q => hc391 ((lw_eq (Int64.ofNat kk.val) (((0 : Int64) + ((own_bi bt0).toInt64)) + ((own_bi bt1).toInt64))).mp q))).2) (by decide) (by decide) k) ?_
                                                exact JX2 (ex1) (show ex1 = own_e (own_bi bt2) (Int64.ofNat kk.val) (((0 : Int64) + ((own_bi bt0).toInt64)) + ((own_bi bt1).toInt64)) (2 : Int32) ex1 from (show own_e (own_bi bt2) (Int64.ofNat kk.val) (((0 : Int64) + ((own_bi bt0).toInt64)) + ((own_bi bt1).toInt64)) (2 : Int32) ex1 = ex1 from ((if_neg hc383).trans ((if_neg hc391).trans rfl))).symm)
                                          refine own_go (mkF m 367 #[iv x0, jv x1, .second, iv x3, iv (own_bi bt0), iv (own_bi bt1), iv (own_bi bt2), iv (own_bi bt3), iv (own_bi bt4), iv (own_bi bt5), rv b1, rv b8, jv (0 : Int64), .second, jv ((0 : Int64) + ((own_bi bt0).toInt64)), .second, jv (((0 : Int64) + ((own_bi bt0).toInt64)) + ((own_bi bt1).toInt64)), .second, jv ((((0 : Int64) + ((own_bi bt0).toInt64)) + ((own_bi bt1).toInt64)) + ((own_bi bt2).toInt64)), .second, jv (((((0 : Int64) + ((own_bi bt0).toInt64)) + ((own_bi bt1).toInt64)) + ((own_bi bt2).toInt64)) + ((own_bi bt3).toInt64)), .second, jv ((((((0 : Int64) + ((own_bi bt0).toInt64)) + ((own_bi bt1).toInt64)) + ((own_bi bt2).toInt64)) + ((own_bi bt3).toInt64)) + ((own_bi bt4).toInt64)), .second, jv (((((((0 : Int64) + ((own_bi bt0).toInt64)) + ((own_bi bt1).toInt64)) + ((own_bi bt2).toInt64)) + ((own_bi bt3).toInt64)) + ((own_bi bt4).toInt64)) + ((own_bi bt5).toInt64)), .second, jv (Int64.ofNat kk.val), .second, iv ex0] [(.int (own_bi bt1))]) (fun t' k => XS.iload XK6.here hx rfl (hb hby at_365) rfl  k) ?_
                                          by_cases hc367 : (own_bi bt1) = (0 : Int32)
                                          · skip
                                            refine own_go (mkF m 381 #[iv x0, jv x1, .second, iv x3, iv (own_bi bt0), iv (own_bi bt1), iv (own_bi bt2), iv (own_bi bt3), iv (own_bi bt4), iv (own_bi bt5), rv b1, rv b8, jv (0 : Int64), .second, jv ((0 : Int64) + ((own_bi bt0).toInt64)), .second, jv (((0 : Int64) + ((own_bi bt0).toInt64)) + ((own_bi bt1).toInt64)), .second, jv ((((0 : Int64) + ((own_bi bt0).toInt64)) + ((own_bi bt1).toInt64)) + ((own_bi bt2).toInt64)), .second, jv (((((0 : Int64) + ((own_bi bt0).toInt64)) + ((own_bi bt1).toInt64)) + ((own_bi bt2).toInt64)) + ((own_bi bt3).toInt64)), .second, jv ((((((0 : Int64) + ((own_bi bt0).toInt64)) + ((own_bi bt1).toInt64)) + ((own_bi bt2).toInt64)) + ((own_bi bt3).toInt64)) + ((own_bi bt4).toInt64)), .second, jv (((((((0 : Int64) + ((own_bi bt0).toInt64)) + ((own_bi bt1).toInt64)) + ((own_bi bt2).toInt64)) + ((own_bi bt3).toInt64)) + ((own_bi bt4).toInt64)) + ((own_bi bt5).toInt64)), .second, jv (Int64.ofNat kk.val), .second, iv ex0] []) (fun t' k => XS.ifYes XK6.here hx rfl (pc0 := 367) (pc' := 381) rfl (hb hby at_367) rfl ((if0 _ _).trans (teq hc367).1) (by decide) (by decide) k) ?_
                                            exact JX1 (ex0) (show ex0 = own_e (own_bi bt1) (Int64.ofNat kk.val) ((0 : Int64) + ((own_bi bt0).toInt64)) (1 : Int32) ex0 from (show own_e (own_bi bt1) (Int64.ofNat kk.val) ((0 : Int64) + ((own_bi bt0).toInt64)) (1 : Int32) ex0 = ex0 from ((if_pos hc367).trans rfl)).symm)
                                          · skip
                                            refine own_go (mkF m 370 #[iv x0, jv x1, .second, iv x3, iv (own_bi bt0), iv (own_bi bt1), iv (own_bi bt2), iv (own_bi bt3), iv (own_bi bt4), iv (own_bi bt5), rv b1, rv b8, jv (0 : Int64), .second, jv ((0 : Int64) + ((own_bi bt0).toInt64)), .second, jv (((0 : Int64) + ((own_bi bt0).toInt64)) + ((own_bi bt1).toInt64)), .second, jv ((((0 : Int64) + ((own_bi bt0).toInt64)) + ((own_bi bt1).toInt64)) + ((own_bi bt2).toInt64)), .second, jv (((((0 : Int64) + ((own_bi bt0).toInt64)) + ((own_bi bt1).toInt64)) + ((own_bi bt2).toInt64)) + ((own_bi bt3).toInt64)), .second, jv ((((((0 : Int64) + ((own_bi bt0).toInt64)) + ((own_bi bt1).toInt64)) + ((own_bi bt2).toInt64)) + ((own_bi bt3).toInt64)) + ((own_bi bt4).toInt64)), .second, jv (((((((0 : Int64) + ((own_bi bt0).toInt64)) + ((own_bi bt1).toInt64)) + ((own_bi bt2).toInt64)) + ((own_bi bt3).toInt64)) + ((own_bi bt4).toInt64)) + ((own_bi bt5).toInt64)), .second, jv (Int64.ofNat kk.val), .second, iv ex0] []) (fun t' k => XS.ifNo XK6.here hx rfl (hb hby at_367) rfl ((if0 _ _).trans (feq hc367).1) k) ?_
                                            refine own_go (mkF m 372 #[iv x0, jv x1, .second, iv x3, iv (own_bi bt0), iv (own_bi bt1), iv (own_bi bt2), iv (own_bi bt3), iv (own_bi bt4), iv (own_bi bt5), rv b1, rv b8, jv (0 : Int64), .second, jv ((0 : Int64) + ((own_bi bt0).toInt64)), .second, jv (((0 : Int64) + ((own_bi bt0).toInt64)) + ((own_bi bt1).toInt64)), .second, jv ((((0 : Int64) + ((own_bi bt0).toInt64)) + ((own_bi bt1).toInt64)) + ((own_bi bt2).toInt64)), .second, jv (((((0 : Int64) + ((own_bi bt0).toInt64)) + ((own_bi bt1).toInt64)) + ((own_bi bt2).toInt64)) + ((own_bi bt3).toInt64)), .second, jv ((((((0 : Int64) + ((own_bi bt0).toInt64)) + ((own_bi bt1).toInt64)) + ((own_bi bt2).toInt64)) + ((own_bi bt3).toInt64)) + ((own_bi bt4).toInt64)), .second, jv (((((((0 : Int64) + ((own_bi bt0).toInt64)) + ((own_bi bt1).toInt64)) + ((own_bi bt2).toInt64)) + ((own_bi bt3).toInt64)) + ((own_bi bt4).toInt64)) + ((own_bi bt5).toInt64)), .second, jv (Int64.ofNat kk.val), .second, iv ex0] [(.long (Int64.ofNat kk.val))]) (fun t' k => XS.lload XK6.here hx rfl (hb hby at_370) rfl  k) ?_
                                            refine own_go (mkF m 374 #[iv x0, jv x1, .second, iv x3, iv (own_bi bt0), iv (own_bi bt1), iv (own_bi bt2), iv (own_bi bt3), iv (own_bi bt4), iv (own_bi bt5), rv b1, rv b8, jv (0 : Int64), .second, jv ((0 : Int64) + ((own_bi bt0).toInt64)), .second, jv (((0 : Int64) + ((own_bi bt0).toInt64)) + ((own_bi bt1).toInt64)), .second, jv ((((0 : Int64) + ((own_bi bt0).toInt64)) + ((own_bi bt1).toInt64)) + ((own_bi bt2).toInt64)), .second, jv (((((0 : Int64) + ((own_bi bt0).toInt64)) + ((own_bi bt1).toInt64)) + ((own_bi bt2).toInt64)) + ((own_bi bt3).toInt64)), .second, jv ((((((0 : Int64) + ((own_bi bt0).toInt64)) + ((own_bi bt1).toInt64)) + ((own_bi bt2).toInt64)) + ((own_bi bt3).toInt64)) + ((own_bi bt4).toInt64)), .second, jv (((((((0 : Int64) + ((own_bi bt0).toInt64)) + ((own_bi bt1).toInt64)) + ((own_bi bt2).toInt64)) + ((own_bi bt3).toInt64)) + ((own_bi bt4).toInt64)) + ((own_bi bt5).toInt64)), .second, jv (Int64.ofNat kk.val), .second, iv ex0] [(.long ((0 : Int64) + ((own_bi bt0).toInt64))), (.long (Int64.ofNat kk.val))]) (fun t' k => XS.lload XK6.here hx rfl (hb hby at_372) rfl  k) ?_
                                            refine own_go (mkF m 375 #[iv x0, jv x1, .second, iv x3, iv (own_bi bt0), iv (own_bi bt1), iv (own_bi bt2), iv (own_bi bt3), iv (own_bi bt4), iv (own_bi bt5), rv b1, rv b8, jv (0 : Int64), .second, jv ((0 : Int64) + ((own_bi bt0).toInt64)), .second, jv (((0 : Int64) + ((own_bi bt0).toInt64)) + ((own_bi bt1).toInt64)), .second, jv ((((0 : Int64) + ((own_bi bt0).toInt64)) + ((own_bi bt1).toInt64)) + ((own_bi bt2).toInt64)), .second, jv (((((0 : Int64) + ((own_bi bt0).toInt64)) + ((own_bi bt1).toInt64)) + ((own_bi bt2).toInt64)) + ((own_bi bt3).toInt64)), .second, jv ((((((0 : Int64) + ((own_bi bt0).toInt64)) + ((own_bi bt1).toInt64)) + ((own_bi bt2).toInt64)) + ((own_bi bt3).toInt64)) + ((own_bi bt4).toInt64)), .second, jv (((((((0 : Int64) + ((own_bi bt0).toInt64)) + ((own_bi bt1).toInt64)) + ((own_bi bt2).toInt64)) + ((own_bi bt3).toInt64)) + ((own_bi bt4).toInt64)) + ((own_bi bt5).toInt64)), .second, jv (Int64.ofNat kk.val), .second, iv ex0] [(.int (lcmpW (Int64.ofNat kk.val) ((0 : Int64) + ((own_bi bt0).toInt64))))]) (fun t' k => XS.lcmp XK6.here hx rfl (hb hby at_374) rfl k) ?_
                                            by_cases hc375 : (Int64.ofNat kk.val) = ((0 : Int64) + ((own_bi bt0).toInt64))
                                            · skip
                                              refine own_go (mkF m 378 #[iv x0, jv x1, .second, iv x3, iv (own_bi bt0), iv (own_bi bt1), iv (own_bi bt2), iv (own_bi bt3), iv (own_bi bt4), iv (own_bi bt5), rv b1, rv b8, jv (0 : Int64), .second, jv ((0 : Int64) + ((own_bi bt0).toInt64)), .second, jv (((0 : Int64) + ((own_bi bt0).toInt64)) + ((own_bi bt1).toInt64)), .second, jv ((((0 : Int64) + ((own_bi bt0).toInt64)) + ((own_bi bt1).toInt64)) + ((own_bi bt2).toInt64)), .second, jv (((((0 : Int64) + ((own_bi bt0).toInt64)) + ((own_bi bt1).toInt64)) + ((own_bi bt2).toInt64)) + ((own_bi bt3).toInt64)), .second, jv ((((((0 : Int64) + ((own_bi bt0).toInt64)) + ((own_bi bt1).toInt64)) + ((own_bi bt2).toInt64)) + ((own_bi bt3).toInt64)) + ((own_bi bt4).toInt64)), .second, jv (((((((0 : Int64) + ((own_bi bt0).toInt64)) + ((own_bi bt1).toInt64)) + ((own_bi bt2).toInt64)) + ((own_bi bt3).toInt64)) + ((own_bi bt4).toInt64)) + ((own_bi bt5).toInt64)), .second, jv (Int64.ofNat kk.val), .second, iv ex0] []) (fun t' k => XS.ifNo XK6.here hx rfl (hb hby at_375) rfl ((if0 _ _).trans (teq ((lw_eq (Int64.ofNat kk.val) ((0 : Int64) + ((own_bi bt0).toInt64))).mpr hc375)).2) k) ?_
                                              refine own_go (mkF m 379 #[iv x0, jv x1, .second, iv x3, iv (own_bi bt0), iv (own_bi bt1), iv (own_bi bt2), iv (own_bi bt3), iv (own_bi bt4), iv (own_bi bt5), rv b1, rv b8, jv (0 : Int64), .second, jv ((0 : Int64) + ((own_bi bt0).toInt64)), .second, jv (((0 : Int64) + ((own_bi bt0).toInt64)) + ((own_bi bt1).toInt64)), .second, jv ((((0 : Int64) + ((own_bi bt0).toInt64)) + ((own_bi bt1).toInt64)) + ((own_bi bt2).toInt64)), .second, jv (((((0 : Int64) + ((own_bi bt0).toInt64)) + ((own_bi bt1).toInt64)) + ((own_bi bt2).toInt64)) + ((own_bi bt3).toInt64)), .second, jv ((((((0 : Int64) + ((own_bi bt0).toInt64)) + ((own_bi bt1).toInt64)) + ((own_bi bt2).toInt64)) + ((own_bi bt3).toInt64)) + ((own_bi bt4).toInt64)), .second, jv (((((((0 : Int64) + ((own_bi bt0).toInt64)) + ((own_bi bt1).toInt64)) + ((own_bi bt2).toInt64)) + ((own_bi bt3).toInt64)) + ((own_bi bt4).toInt64)) + ((own_bi bt5).toInt64)), .second, jv (Int64.ofNat kk.val), .second, iv ex0] [(.int (1 : Int32))]) (fun t' k => XS.iconst XK6.here hx rfl (hb hby at_378) k) ?_
                                              refine own_go (mkF m 381 #[iv x0, jv x1, .second, iv x3, iv (own_bi bt0), iv (own_bi bt1), iv (own_bi bt2), iv (own_bi bt3), iv (own_bi bt4), iv (own_bi bt5), rv b1, rv b8, jv (0 : Int64), .second, jv ((0 : Int64) + ((own_bi bt0).toInt64)), .second, jv (((0 : Int64) + ((own_bi bt0).toInt64)) + ((own_bi bt1).toInt64)), .second, jv ((((0 : Int64) + ((own_bi bt0).toInt64)) + ((own_bi bt1).toInt64)) + ((own_bi bt2).toInt64)), .second, jv (((((0 : Int64) + ((own_bi bt0).toInt64)) + ((own_bi bt1).toInt64)) + ((own_bi bt2).toInt64)) + ((own_bi bt3).toInt64)), .second, jv ((((((0 : Int64) + ((own_bi bt0).toInt64)) + ((own_bi bt1).toInt64)) + ((own_bi bt2).toInt64)) + ((own_bi bt3).toInt64)) + ((own_bi bt4).toInt64)), .second, jv (((((((0 : Int64) + ((own_bi bt0).toInt64)) + ((own_bi bt1).toInt64)) + ((own_bi bt2).toInt64)) + ((own_bi bt3).toInt64)) + ((own_bi bt4).toInt64)) + ((own_bi bt5).toInt64)), .second, jv (Int64.ofNat kk.val), .second, iv (1 : Int32)] []) (fun t' k => XS.istore XK6.here hx rfl (hb hby at_379) rfl (l' := #[iv x0, jv x1, .second, iv x3, iv (own_bi bt0), iv (own_bi bt1), iv (own_bi bt2), iv (own_bi bt3), iv (own_bi bt4), iv (own_bi bt5), rv b1, rv b8, jv (0 : Int64), .second, jv ((0 : Int64) + ((own_bi bt0).toInt64)), .second, jv (((0 : Int64) + ((own_bi bt0).toInt64)) + ((own_bi bt1).toInt64)), .second, jv ((((0 : Int64) + ((own_bi bt0).toInt64)) + ((own_bi bt1).toInt64)) + ((own_bi bt2).toInt64)), .second, jv (((((0 : Int64) + ((own_bi bt0).toInt64)) + ((own_bi bt1).toInt64)) + ((own_bi bt2).toInt64)) + ((own_bi bt3).toInt64)), .second, jv ((((((0 : Int64) + ((own_bi bt0).toInt64)) + ((own_bi bt1).toInt64)) + ((own_bi bt2).toInt64)) + ((own_bi bt3).toInt64)) + ((own_bi bt4).toInt64)), .second, jv (((((((0 : Int64) + ((own_bi bt0).toInt64)) + ((own_bi bt1).toInt64)) + ((own_bi bt2).toInt64)) + ((own_bi bt3).toInt64)) + ((own_bi bt4).toInt64)) + ((own_bi bt5).toInt64)), .second, jv (Int64.ofNat kk.val), .second, iv (1 : Int32)]) rfl k) ?_
                                              exact JX1 ((1 : Int32)) (show (1 : Int32) = own_e (own_bi bt1) (Int64.ofNat kk.val) ((0 : Int64) + ((own_bi bt0).toInt64)) (1 : Int32) ex0 from (show own_e (own_bi bt1) (Int64.ofNat kk.val) ((0 : Int64) + ((own_bi bt0).toInt64)) (1 : Int32) ex0 = (1 : Int32) from ((if_neg hc367).trans ((if_pos hc375).trans rfl))).symm)
                                            · skip
                                              refine own_go (mkF m 381 #[iv x0, jv x1, .second, iv x3, iv (own_bi bt0), iv (own_bi bt1), iv (own_bi bt2), iv (own_bi bt3), iv (own_bi bt4), iv (own_bi bt5), rv b1, rv b8, jv (0 : Int64), .second, jv ((0 : Int64) + ((own_bi bt0).toInt64)), .second, jv (((0 : Int64) + ((own_bi bt0).toInt64)) + ((own_bi bt1).toInt64)), .second, jv ((((0 : Int64) + ((own_bi bt0).toInt64)) + ((own_bi bt1).toInt64)) + ((own_bi bt2).toInt64)), .second, jv (((((0 : Int64) + ((own_bi bt0).toInt64)) + ((own_bi bt1).toInt64)) + ((own_bi bt2).toInt64)) + ((own_bi bt3).toInt64)), .second, jv ((((((0 : Int64) + ((own_bi bt0).toInt64)) + ((own_bi bt1).toInt64)) + ((own_bi bt2).toInt64)) + ((own_bi bt3).toInt64)) + ((own_bi bt4).toInt64)), .second, jv (((((((0 : Int64) + ((own_bi bt0).toInt64)) + ((own_bi bt1).toInt64)) + ((own_bi bt2).toInt64)) + ((own_bi bt3).toInt64)) + ((own_bi bt4).toInt64)) + ((own_bi bt5).toInt64)), .second, jv (Int64.ofNat kk.val), .second, iv ex0] []) (fun t' k => XS.ifYes XK6.here hx rfl (pc0 := 375) (pc' := 381) rfl (hb hby at_375) rfl ((if0 _ _).trans (feq (fun q => hc375 ((lw_eq (Int64.ofNat kk.val) ((0 : Int64) + ((own_bi bt0).toInt64))).mp q))).2) (by decide) (by decide) k) ?_
                                              exact JX1 (ex0) (show ex0 = own_e (own_bi bt1) (Int64.ofNat kk.val) ((0 : Int64) + ((own_bi bt0).toInt64)) (1 : Int32) ex0 from (show own_e (own_bi bt1) (Int64.ofNat kk.val) ((0 : Int64) + ((own_bi bt0).toInt64)) (1 : Int32) ex0 = ex0 from ((if_neg hc367).trans ((if_neg hc375).trans rfl))).symm)
                                        refine own_go (mkF m 351 #[iv x0, jv x1, .second, iv x3, iv (own_bi bt0), iv (own_bi bt1), iv (own_bi bt2), iv (own_bi bt3), iv (own_bi bt4), iv (own_bi bt5), rv b1, rv b8, jv (0 : Int64), .second, jv ((0 : Int64) + ((own_bi bt0).toInt64)), .second, jv (((0 : Int64) + ((own_bi bt0).toInt64)) + ((own_bi bt1).toInt64)), .second, jv ((((0 : Int64) + ((own_bi bt0).toInt64)) + ((own_bi bt1).toInt64)) + ((own_bi bt2).toInt64)), .second, jv (((((0 : Int64) + ((own_bi bt0).toInt64)) + ((own_bi bt1).toInt64)) + ((own_bi bt2).toInt64)) + ((own_bi bt3).toInt64)), .second, jv ((((((0 : Int64) + ((own_bi bt0).toInt64)) + ((own_bi bt1).toInt64)) + ((own_bi bt2).toInt64)) + ((own_bi bt3).toInt64)) + ((own_bi bt4).toInt64)), .second, jv (((((((0 : Int64) + ((own_bi bt0).toInt64)) + ((own_bi bt1).toInt64)) + ((own_bi bt2).toInt64)) + ((own_bi bt3).toInt64)) + ((own_bi bt4).toInt64)) + ((own_bi bt5).toInt64)), .second, jv (Int64.ofNat kk.val), .second, iv (-1 : Int32)] [(.int (own_bi bt0))]) (fun t' k => XS.iload XK6.here hx rfl (hb hby at_349) rfl  k) ?_
                                        by_cases hc351 : (own_bi bt0) = (0 : Int32)
                                        · skip
                                          refine own_go (mkF m 365 #[iv x0, jv x1, .second, iv x3, iv (own_bi bt0), iv (own_bi bt1), iv (own_bi bt2), iv (own_bi bt3), iv (own_bi bt4), iv (own_bi bt5), rv b1, rv b8, jv (0 : Int64), .second, jv ((0 : Int64) + ((own_bi bt0).toInt64)), .second, jv (((0 : Int64) + ((own_bi bt0).toInt64)) + ((own_bi bt1).toInt64)), .second, jv ((((0 : Int64) + ((own_bi bt0).toInt64)) + ((own_bi bt1).toInt64)) + ((own_bi bt2).toInt64)), .second, jv (((((0 : Int64) + ((own_bi bt0).toInt64)) + ((own_bi bt1).toInt64)) + ((own_bi bt2).toInt64)) + ((own_bi bt3).toInt64)), .second, jv ((((((0 : Int64) + ((own_bi bt0).toInt64)) + ((own_bi bt1).toInt64)) + ((own_bi bt2).toInt64)) + ((own_bi bt3).toInt64)) + ((own_bi bt4).toInt64)), .second, jv (((((((0 : Int64) + ((own_bi bt0).toInt64)) + ((own_bi bt1).toInt64)) + ((own_bi bt2).toInt64)) + ((own_bi bt3).toInt64)) + ((own_bi bt4).toInt64)) + ((own_bi bt5).toInt64)), .second, jv (Int64.ofNat kk.val), .second, iv (-1 : Int32)] []) (fun t' k => XS.ifYes XK6.here hx rfl (pc0 := 351) (pc' := 365) rfl (hb hby at_351) rfl ((if0 _ _).trans (teq hc351).1) (by decide) (by decide) k) ?_
                                          exact JX0 ((-1 : Int32)) (show (-1 : Int32) = own_e (own_bi bt0) (Int64.ofNat kk.val) (0 : Int64) (0 : Int32) (-1 : Int32) from (show own_e (own_bi bt0) (Int64.ofNat kk.val) (0 : Int64) (0 : Int32) (-1 : Int32) = (-1 : Int32) from ((if_pos hc351).trans rfl)).symm)
                                        · skip
                                          refine own_go (mkF m 354 #[iv x0, jv x1, .second, iv x3, iv (own_bi bt0), iv (own_bi bt1), iv (own_bi bt2), iv (own_bi bt3), iv (own_bi bt4), iv (own_bi bt5), rv b1, rv b8, jv (0 : Int64), .second, jv ((0 : Int64) + ((own_bi bt0).toInt64)), .second, jv (((0 : Int64) + ((own_bi bt0).toInt64)) + ((own_bi bt1).toInt64)), .second, jv ((((0 : Int64) + ((own_bi bt0).toInt64)) + ((own_bi bt1).toInt64)) + ((own_bi bt2).toInt64)), .second, jv (((((0 : Int64) + ((own_bi bt0).toInt64)) + ((own_bi bt1).toInt64)) + ((own_bi bt2).toInt64)) + ((own_bi bt3).toInt64)), .second, jv ((((((0 : Int64) + ((own_bi bt0).toInt64)) + ((own_bi bt1).toInt64)) + ((own_bi bt2).toInt64)) + ((own_bi bt3).toInt64)) + ((own_bi bt4).toInt64)), .second, jv (((((((0 : Int64) + ((own_bi bt0).toInt64)) + ((own_bi bt1).toInt64)) + ((own_bi bt2).toInt64)) + ((own_bi bt3).toInt64)) + ((own_bi bt4).toInt64)) + ((own_bi bt5).toInt64)), .second, jv (Int64.ofNat kk.val), .second, iv (-1 : Int32)] []) (fun t' k => XS.ifNo XK6.here hx rfl (hb hby at_351) rfl ((if0 _ _).trans (feq hc351).1) k) ?_
                                          refine own_go (mkF m 356 #[iv x0, jv x1, .second, iv x3, iv (own_bi bt0), iv (own_bi bt1), iv (own_bi bt2), iv (own_bi bt3), iv (own_bi bt4), iv (own_bi bt5), rv b1, rv b8, jv (0 : Int64), .second, jv ((0 : Int64) + ((own_bi bt0).toInt64)), .second, jv (((0 : Int64) + ((own_bi bt0).toInt64)) + ((own_bi bt1).toInt64)), .second, jv ((((0 : Int64) + ((own_bi bt0).toInt64)) + ((own_bi bt1).toInt64)) + ((own_bi bt2).toInt64)), .second, jv (((((0 : Int64) + ((own_bi bt0).toInt64)) + ((own_bi bt1).toInt64)) + ((own_bi bt2).toInt64)) + ((own_bi bt3).toInt64)), .second, jv ((((((0 : Int64) + ((own_bi bt0).toInt64)) + ((own_bi bt1).toInt64)) + ((own_bi bt2).toInt64)) + ((own_bi bt3).toInt64)) + ((own_bi bt4).toInt64)), .second, jv (((((((0 : Int64) + ((own_bi bt0).toInt64)) + ((own_bi bt1).toInt64)) + ((own_bi bt2).toInt64)) + ((own_bi bt3).toInt64)) + ((own_bi bt4).toInt64)) + ((own_bi bt5).toInt64)), .second, jv (Int64.ofNat kk.val), .second, iv (-1 : Int32)] [(.long (Int64.ofNat kk.val))]) (fun t' k => XS.lload XK6.here hx rfl (hb hby at_354) rfl  k) ?_
                                          refine own_go (mkF m 358 #[iv x0, jv x1, .second, iv x3, iv (own_bi bt0), iv (own_bi bt1), iv (own_bi bt2), iv (own_bi bt3), iv (own_bi bt4), iv (own_bi bt5), rv b1, rv b8, jv (0 : Int64), .second, jv ((0 : Int64) + ((own_bi bt0).toInt64)), .second, jv (((0 : Int64) + ((own_bi bt0).toInt64)) + ((own_bi bt1).toInt64)), .second, jv ((((0 : Int64) + ((own_bi bt0).toInt64)) + ((own_bi bt1).toInt64)) + ((own_bi bt2).toInt64)), .second, jv (((((0 : Int64) + ((own_bi bt0).toInt64)) + ((own_bi bt1).toInt64)) + ((own_bi bt2).toInt64)) + ((own_bi bt3).toInt64)), .second, jv ((((((0 : Int64) + ((own_bi bt0).toInt64)) + ((own_bi bt1).toInt64)) + ((own_bi bt2).toInt64)) + ((own_bi bt3).toInt64)) + ((own_bi bt4).toInt64)), .second, jv (((((((0 : Int64) + ((own_bi bt0).toInt64)) + ((own_bi bt1).toInt64)) + ((own_bi bt2).toInt64)) + ((own_bi bt3).toInt64)) + ((own_bi bt4).toInt64)) + ((own_bi bt5).toInt64)), .second, jv (Int64.ofNat kk.val), .second, iv (-1 : Int32)] [(.long (0 : Int64)), (.long (Int64.ofNat kk.val))]) (fun t' k => XS.lload XK6.here hx rfl (hb hby at_356) rfl  k) ?_
                                          refine own_go (mkF m 359 #[iv x0, jv x1, .second, iv x3, iv (own_bi bt0), iv (own_bi bt1), iv (own_bi bt2), iv (own_bi bt3), iv (own_bi bt4), iv (own_bi bt5), rv b1, rv b8, jv (0 : Int64), .second, jv ((0 : Int64) + ((own_bi bt0).toInt64)), .second, jv (((0 : Int64) + ((own_bi bt0).toInt64)) + ((own_bi bt1).toInt64)), .second, jv ((((0 : Int64) + ((own_bi bt0).toInt64)) + ((own_bi bt1).toInt64)) + ((own_bi bt2).toInt64)), .second, jv (((((0 : Int64) + ((own_bi bt0).toInt64)) + ((own_bi bt1).toInt64)) + ((own_bi bt2).toInt64)) + ((own_bi bt3).toInt64)), .second, jv ((((((0 : Int64) + ((own_bi bt0).toInt64)) + ((own_bi bt1).toInt64)) + ((own_bi bt2).toInt64)) + ((own_bi bt3).toInt64)) + ((own_bi bt4).toInt64)), .second, jv (((((((0 : Int64) + ((own_bi bt0).toInt64)) + ((own_bi bt1).toInt64)) + ((own_bi bt2).toInt64)) + ((own_bi bt3).toInt64)) + ((own_bi bt4).toInt64)) + ((own_bi bt5).toInt64)), .second, jv (Int64.ofNat kk.val), .second, iv (-1 : Int32)] [(.int (lcmpW (Int64.ofNat kk.val) (0 : Int64)))]) (fun t' k => XS.lcmp XK6.here hx rfl (hb hby at_358) rfl k) ?_
                                          by_cases hc359 : (Int64.ofNat kk.val) = (0 : Int64)
                                          · skip
                                            refine own_go (mkF m 362 #[iv x0, jv x1, .second, iv x3, iv (own_bi bt0), iv (own_bi bt1), iv (own_bi bt2), iv (own_bi bt3), iv (own_bi bt4), iv (own_bi bt5), rv b1, rv b8, jv (0 : Int64), .second, jv ((0 : Int64) + ((own_bi bt0).toInt64)), .second, jv (((0 : Int64) + ((own_bi bt0).toInt64)) + ((own_bi bt1).toInt64)), .second, jv ((((0 : Int64) + ((own_bi bt0).toInt64)) + ((own_bi bt1).toInt64)) + ((own_bi bt2).toInt64)), .second, jv (((((0 : Int64) + ((own_bi bt0).toInt64)) + ((own_bi bt1).toInt64)) + ((own_bi bt2).toInt64)) + ((own_bi bt3).toInt64)), .second, jv ((((((0 : Int64) + ((own_bi bt0).toInt64)) + ((own_bi bt1).toInt64)) + ((own_bi bt2).toInt64)) + ((own_bi bt3).toInt64)) + ((own_bi bt4).toInt64)), .second, jv (((((((0 : Int64) + ((own_bi bt0).toInt64)) + ((own_bi bt1).toInt64)) + ((own_bi bt2).toInt64)) + ((own_bi bt3).toInt64)) + ((own_bi bt4).toInt64)) + ((own_bi bt5).toInt64)), .second, jv (Int64.ofNat kk.val), .second, iv (-1 : Int32)] []) (fun t' k => XS.ifNo XK6.here hx rfl (hb hby at_359) rfl ((if0 _ _).trans (teq ((lw_eq (Int64.ofNat kk.val) (0 : Int64)).mpr hc359)).2) k) ?_
                                            refine own_go (mkF m 363 #[iv x0, jv x1, .second, iv x3, iv (own_bi bt0), iv (own_bi bt1), iv (own_bi bt2), iv (own_bi bt3), iv (own_bi bt4), iv (own_bi bt5), rv b1, rv b8, jv (0 : Int64), .second, jv ((0 : Int64) + ((own_bi bt0).toInt64)), .second, jv (((0 : Int64) + ((own_bi bt0).toInt64)) + ((own_bi bt1).toInt64)), .second, jv ((((0 : Int64) + ((own_bi bt0).toInt64)) + ((own_bi bt1).toInt64)) + ((own_bi bt2).toInt64)), .second, jv (((((0 : Int64) + ((own_bi bt0).toInt64)) + ((own_bi bt1).toInt64)) + ((own_bi bt2).toInt64)) + ((own_bi bt3).toInt64)), .second, jv ((((((0 : Int64) + ((own_bi bt0).toInt64)) + ((own_bi bt1).toInt64)) + ((own_bi bt2).toInt64)) + ((own_bi bt3).toInt64)) + ((own_bi bt4).toInt64)), .second, jv (((((((0 : Int64) + ((own_bi bt0).toInt64)) + ((own_bi bt1).toInt64)) + ((own_bi bt2).toInt64)) + ((own_bi bt3).toInt64)) + ((own_bi bt4).toInt64)) + ((own_bi bt5).toInt64)), .second, jv (Int64.ofNat kk.val), .second, iv (-1 : Int32)] [(.int (0 : Int32))]) (fun t' k => XS.iconst XK6.here hx rfl (hb hby at_362) k) ?_
                                            refine own_go (mkF m 365 #[iv x0, jv x1, .second, iv x3, iv (own_bi bt0), iv (own_bi bt1), iv (own_bi bt2), iv (own_bi bt3), iv (own_bi bt4), iv (own_bi bt5), rv b1, rv b8, jv (0 : Int64), .second, jv ((0 : Int64) + ((own_bi bt0).toInt64)), .second, jv (((0 : Int64) + ((own_bi bt0).toInt64)) + ((own_bi bt1).toInt64)), .second, jv ((((0 : Int64) + ((own_bi bt0).toInt64)) + ((own_bi bt1).toInt64)) + ((own_bi bt2).toInt64)), .second, jv (((((0 : Int64) + ((own_bi bt0).toInt64)) + ((own_bi bt1).toInt64)) + ((own_bi bt2).toInt64)) + ((own_bi bt3).toInt64)), .second, jv ((((((0 : Int64) + ((own_bi bt0).toInt64)) + ((own_bi bt1).toInt64)) + ((own_bi bt2).toInt64)) + ((own_bi bt3).toInt64)) + ((own_bi bt4).toInt64)), .second, jv (((((((0 : Int64) + ((own_bi bt0).toInt64)) + ((own_bi bt1).toInt64)) + ((own_bi bt2).toInt64)) + ((own_bi bt3).toInt64)) + ((own_bi bt4).toInt64)) + ((own_bi bt5).toInt64)), .second, jv (Int64.ofNat kk.val), .second, iv (0 : Int32)] []) (fun t' k => XS.istore XK6.here hx rfl (hb hby at_363) rfl (l' := #[iv x0, jv x1, .second, iv x3, iv (own_bi bt0), iv (own_bi bt1), iv (own_bi bt2), iv (own_bi bt3), iv (own_bi bt4), iv (own_bi bt5), rv b1, rv b8, jv (0 : Int64), .second, jv ((0 : Int64) + ((own_bi bt0).toInt64)), .second, jv (((0 : Int64) + ((own_bi bt0).toInt64)) + ((own_bi bt1).toInt64)), .second, jv ((((0 : Int64) + ((own_bi bt0).toInt64)) + ((own_bi bt1).toInt64)) + ((own_bi bt2).toInt64)), .second, jv (((((0 : Int64) + ((own_bi bt0).toInt64)) + ((own_bi bt1).toInt64)) + ((own_bi bt2).toInt64)) + ((own_bi bt3).toInt64)), .second, jv ((((((0 : Int64) + ((own_bi bt0).toInt64)) + ((own_bi bt1).toInt64)) + ((own_bi bt2).toInt64)) + ((own_bi bt3).toInt64)) + ((own_bi bt4).toInt64)), .second, jv (((((((0 : Int64) + ((own_bi bt0).toInt64)) + ((own_bi bt1).toInt64)) + ((own_bi bt2).toInt64)) + ((own_bi bt3).toInt64)) + ((own_bi bt4).toInt64)) + ((own_bi bt5).toInt64)), .second, jv (Int64.ofNat kk.val), .second, iv (0 : Int32)]) rfl k) ?_
                                            exact JX0 ((0 : Int32)) (show (0 : Int32) = own_e (own_bi bt0) (Int64.ofNat kk.val) (0 : Int64) (0 : Int32) (-1 : Int32) from (show own_e (own_bi bt0) (Int64.ofNat kk.val) (0 : Int64) (0 : Int32) (-1 : Int32) = (0 : Int32) from ((if_neg hc351).trans ((if_pos hc359).trans rfl))).symm)
                                          · skip
                                            refine own_go (mkF m 365 #[iv x0, jv x1, .second, iv x3, iv (own_bi bt0), iv (own_bi bt1), iv (own_bi bt2), iv (own_bi bt3), iv (own_bi bt4), iv (own_bi bt5), rv b1, rv b8, jv (0 : Int64), .second, jv ((0 : Int64) + ((own_bi bt0).toInt64)), .second, jv (((0 : Int64) + ((own_bi bt0).toInt64)) + ((own_bi bt1).toInt64)), .second, jv ((((0 : Int64) + ((own_bi bt0).toInt64)) + ((own_bi bt1).toInt64)) + ((own_bi bt2).toInt64)), .second, jv (((((0 : Int64) + ((own_bi bt0).toInt64)) + ((own_bi bt1).toInt64)) + ((own_bi bt2).toInt64)) + ((own_bi bt3).toInt64)), .second, jv ((((((0 : Int64) + ((own_bi bt0).toInt64)) + ((own_bi bt1).toInt64)) + ((own_bi bt2).toInt64)) + ((own_bi bt3).toInt64)) + ((own_bi bt4).toInt64)), .second, jv (((((((0 : Int64) + ((own_bi bt0).toInt64)) + ((own_bi bt1).toInt64)) + ((own_bi bt2).toInt64)) + ((own_bi bt3).toInt64)) + ((own_bi bt4).toInt64)) + ((own_bi bt5).toInt64)), .second, jv (Int64.ofNat kk.val), .second, iv (-1 : Int32)] []) (fun t' k => XS.ifYes XK6.here hx rfl (pc0 := 359) (pc' := 365) rfl (hb hby at_359) rfl ((if0 _ _).trans (feq (fun q => hc359 ((lw_eq (Int64.ofNat kk.val) (0 : Int64)).mp q))).2) (by decide) (by decide) k) ?_
                                            exact JX0 ((-1 : Int32)) (show (-1 : Int32) = own_e (own_bi bt0) (Int64.ofNat kk.val) (0 : Int64) (0 : Int32) (-1 : Int32) from (show own_e (own_bi bt0) (Int64.ofNat kk.val) (0 : Int64) (0 : Int32) (-1 : Int32) = (-1 : Int32) from ((if_neg hc351).trans ((if_neg hc359).trans rfl))).symm)
                                    refine own_go (mkF m 315 #[iv x0, jv x1, .second, iv x3, iv (own_bi bt0), iv (own_bi bt1), iv (own_bi bt2), iv (own_bi bt3), iv (own_bi bt4), iv (own_bi bt5), rv b1, rv b8, jv (0 : Int64), .second, jv ((0 : Int64) + ((own_bi bt0).toInt64)), .second, jv (((0 : Int64) + ((own_bi bt0).toInt64)) + ((own_bi bt1).toInt64)), .second, jv ((((0 : Int64) + ((own_bi bt0).toInt64)) + ((own_bi bt1).toInt64)) + ((own_bi bt2).toInt64)), .second, jv (((((0 : Int64) + ((own_bi bt0).toInt64)) + ((own_bi bt1).toInt64)) + ((own_bi bt2).toInt64)) + ((own_bi bt3).toInt64)), .second, jv ((((((0 : Int64) + ((own_bi bt0).toInt64)) + ((own_bi bt1).toInt64)) + ((own_bi bt2).toInt64)) + ((own_bi bt3).toInt64)) + ((own_bi bt4).toInt64)), .second, .unset, .unset, .unset, .unset, .unset] [(.int (own_bi bt5)), (.long ((((((0 : Int64) + ((own_bi bt0).toInt64)) + ((own_bi bt1).toInt64)) + ((own_bi bt2).toInt64)) + ((own_bi bt3).toInt64)) + ((own_bi bt4).toInt64)))]) (fun t' k => XS.iload XK6.here hx rfl (hb hby at_313) rfl  k) ?_
                                    by_cases hc315 : (own_bi bt5) = (0 : Int32)
                                    · skip
                                      refine own_go (mkF m 322 #[iv x0, jv x1, .second, iv x3, iv (own_bi bt0), iv (own_bi bt1), iv (own_bi bt2), iv (own_bi bt3), iv (own_bi bt4), iv (own_bi bt5), rv b1, rv b8, jv (0 : Int64), .second, jv ((0 : Int64) + ((own_bi bt0).toInt64)), .second, jv (((0 : Int64) + ((own_bi bt0).toInt64)) + ((own_bi bt1).toInt64)), .second, jv ((((0 : Int64) + ((own_bi bt0).toInt64)) + ((own_bi bt1).toInt64)) + ((own_bi bt2).toInt64)), .second, jv (((((0 : Int64) + ((own_bi bt0).toInt64)) + ((own_bi bt1).toInt64)) + ((own_bi bt2).toInt64)) + ((own_bi bt3).toInt64)), .second, jv ((((((0 : Int64) + ((own_bi bt0).toInt64)) + ((own_bi bt1).toInt64)) + ((own_bi bt2).toInt64)) + ((own_bi bt3).toInt64)) + ((own_bi bt4).toInt64)), .second, .unset, .unset, .unset, .unset, .unset] [(.long ((((((0 : Int64) + ((own_bi bt0).toInt64)) + ((own_bi bt1).toInt64)) + ((own_bi bt2).toInt64)) + ((own_bi bt3).toInt64)) + ((own_bi bt4).toInt64)))]) (fun t' k => XS.ifYes XK6.here hx rfl (pc0 := 315) (pc' := 322) rfl (hb hby at_315) rfl ((if0 _ _).trans (teq hc315).1) (by decide) (by decide) k) ?_
                                      refine own_go (mkF m 323 #[iv x0, jv x1, .second, iv x3, iv (own_bi bt0), iv (own_bi bt1), iv (own_bi bt2), iv (own_bi bt3), iv (own_bi bt4), iv (own_bi bt5), rv b1, rv b8, jv (0 : Int64), .second, jv ((0 : Int64) + ((own_bi bt0).toInt64)), .second, jv (((0 : Int64) + ((own_bi bt0).toInt64)) + ((own_bi bt1).toInt64)), .second, jv ((((0 : Int64) + ((own_bi bt0).toInt64)) + ((own_bi bt1).toInt64)) + ((own_bi bt2).toInt64)), .second, jv (((((0 : Int64) + ((own_bi bt0).toInt64)) + ((own_bi bt1).toInt64)) + ((own_bi bt2).toInt64)) + ((own_bi bt3).toInt64)), .second, jv ((((((0 : Int64) + ((own_bi bt0).toInt64)) + ((own_bi bt1).toInt64)) + ((own_bi bt2).toInt64)) + ((own_bi bt3).toInt64)) + ((own_bi bt4).toInt64)), .second, .unset, .unset, .unset, .unset, .unset] [(.int (0 : Int32)), (.long ((((((0 : Int64) + ((own_bi bt0).toInt64)) + ((own_bi bt1).toInt64)) + ((own_bi bt2).toInt64)) + ((own_bi bt3).toInt64)) + ((own_bi bt4).toInt64)))]) (fun t' k => XS.iconst XK6.here hx rfl (hb hby at_322) k) ?_
                                      exact JQ5 ((0 : Int32)) (by cases bt5 <;> first | rfl | exact absurd hc315 (by decide) | exact absurd rfl hc315)
                                    · skip
                                      refine own_go (mkF m 318 #[iv x0, jv x1, .second, iv x3, iv (own_bi bt0), iv (own_bi bt1), iv (own_bi bt2), iv (own_bi bt3), iv (own_bi bt4), iv (own_bi bt5), rv b1, rv b8, jv (0 : Int64), .second, jv ((0 : Int64) + ((own_bi bt0).toInt64)), .second, jv (((0 : Int64) + ((own_bi bt0).toInt64)) + ((own_bi bt1).toInt64)), .second, jv ((((0 : Int64) + ((own_bi bt0).toInt64)) + ((own_bi bt1).toInt64)) + ((own_bi bt2).toInt64)), .second, jv (((((0 : Int64) + ((own_bi bt0).toInt64)) + ((own_bi bt1).toInt64)) + ((own_bi bt2).toInt64)) + ((own_bi bt3).toInt64)), .second, jv ((((((0 : Int64) + ((own_bi bt0).toInt64)) + ((own_bi bt1).toInt64)) + ((own_bi bt2).toInt64)) + ((own_bi bt3).toInt64)) + ((own_bi bt4).toInt64)), .second, .unset, .unset, .unset, .unset, .unset] [(.long ((((((0 : Int64) + ((own_bi bt0).toInt64)) + ((own_bi bt1).toInt64)) + ((own_bi bt2).toInt64)) + ((own_bi bt3).toInt64)) + ((own_bi bt4).toInt64)))]) (fun t' k => XS.ifNo XK6.here hx rfl (hb hby at_315) rfl ((if0 _ _).trans (feq hc315).1) k) ?_
                                      refine own_go (mkF m 319 #[iv x0, jv x1, .second, iv x3, iv (own_bi bt0), iv (own_bi bt1), iv (own_bi bt2), iv (own_bi bt3), iv (own_bi bt4), iv (own_bi bt5), rv b1, rv b8, jv (0 : Int64), .second, jv ((0 : Int64) + ((own_bi bt0).toInt64)), .second, jv (((0 : Int64) + ((own_bi bt0).toInt64)) + ((own_bi bt1).toInt64)), .second, jv ((((0 : Int64) + ((own_bi bt0).toInt64)) + ((own_bi bt1).toInt64)) + ((own_bi bt2).toInt64)), .second, jv (((((0 : Int64) + ((own_bi bt0).toInt64)) + ((own_bi bt1).toInt64)) + ((own_bi bt2).toInt64)) + ((own_bi bt3).toInt64)), .second, jv ((((((0 : Int64) + ((own_bi bt0).toInt64)) + ((own_bi bt1).toInt64)) + ((own_bi bt2).toInt64)) + ((own_bi bt3).toInt64)) + ((own_bi bt4).toInt64)), .second, .unset, .unset, .unset, .unset, .unset] [(.int (1 : Int32)), (.long ((((((0 : Int64) + ((own_bi bt0).toInt64)) + ((own_bi bt1).toInt64)) + ((own_bi bt2).toInt64)) + ((own_bi bt3).toInt64)) + ((own_bi bt4).toInt64)))]) (fun t' k => XS.iconst XK6.here hx rfl (hb hby at_318) k) ?_
                                      refine own_go (mkF m 323 #[iv x0, jv x1, .second, iv x3, iv (own_bi bt0), iv (own_bi bt1), iv (own_bi bt2), iv (own_bi bt3), iv (own_bi bt4), iv (own_bi bt5), rv b1, rv b8, jv (0 : Int64), .second, jv ((0 : Int64) + ((own_bi bt0).toInt64)), .second, jv (((0 : Int64) + ((own_bi bt0).toInt64)) + ((own_bi bt1).toInt64)), .second, jv ((((0 : Int64) + ((own_bi bt0).toInt64)) + ((own_bi bt1).toInt64)) + ((own_bi bt2).toInt64)), .second, jv (((((0 : Int64) + ((own_bi bt0).toInt64)) + ((own_bi bt1).toInt64)) + ((own_bi bt2).toInt64)) + ((own_bi bt3).toInt64)), .second, jv ((((((0 : Int64) + ((own_bi bt0).toInt64)) + ((own_bi bt1).toInt64)) + ((own_bi bt2).toInt64)) + ((own_bi bt3).toInt64)) + ((own_bi bt4).toInt64)), .second, .unset, .unset, .unset, .unset, .unset] [(.int (1 : Int32)), (.long ((((((0 : Int64) + ((own_bi bt0).toInt64)) + ((own_bi bt1).toInt64)) + ((own_bi bt2).toInt64)) + ((own_bi bt3).toInt64)) + ((own_bi bt4).toInt64)))]) (fun t' k => XS.goto XK6.here hx rfl (pc0 := 319) (pc' := 323) rfl (hb hby at_319) (by decide) (by decide) k) ?_
                                      exact JQ5 ((1 : Int32)) (by cases bt5 <;> first | rfl | exact absurd hc315 (by decide) | exact absurd rfl hc315)
                                  refine own_go (mkF m 299 #[iv x0, jv x1, .second, iv x3, iv (own_bi bt0), iv (own_bi bt1), iv (own_bi bt2), iv (own_bi bt3), iv (own_bi bt4), iv (own_bi bt5), rv b1, rv b8, jv (0 : Int64), .second, jv ((0 : Int64) + ((own_bi bt0).toInt64)), .second, jv (((0 : Int64) + ((own_bi bt0).toInt64)) + ((own_bi bt1).toInt64)), .second, jv ((((0 : Int64) + ((own_bi bt0).toInt64)) + ((own_bi bt1).toInt64)) + ((own_bi bt2).toInt64)), .second, jv (((((0 : Int64) + ((own_bi bt0).toInt64)) + ((own_bi bt1).toInt64)) + ((own_bi bt2).toInt64)) + ((own_bi bt3).toInt64)), .second, .unset, .unset, .unset, .unset, .unset, .unset, .unset] [(.int (own_bi bt4)), (.long (((((0 : Int64) + ((own_bi bt0).toInt64)) + ((own_bi bt1).toInt64)) + ((own_bi bt2).toInt64)) + ((own_bi bt3).toInt64)))]) (fun t' k => XS.iload XK6.here hx rfl (hb hby at_297) rfl  k) ?_
                                  by_cases hc299 : (own_bi bt4) = (0 : Int32)
                                  · skip
                                    refine own_go (mkF m 306 #[iv x0, jv x1, .second, iv x3, iv (own_bi bt0), iv (own_bi bt1), iv (own_bi bt2), iv (own_bi bt3), iv (own_bi bt4), iv (own_bi bt5), rv b1, rv b8, jv (0 : Int64), .second, jv ((0 : Int64) + ((own_bi bt0).toInt64)), .second, jv (((0 : Int64) + ((own_bi bt0).toInt64)) + ((own_bi bt1).toInt64)), .second, jv ((((0 : Int64) + ((own_bi bt0).toInt64)) + ((own_bi bt1).toInt64)) + ((own_bi bt2).toInt64)), .second, jv (((((0 : Int64) + ((own_bi bt0).toInt64)) + ((own_bi bt1).toInt64)) + ((own_bi bt2).toInt64)) + ((own_bi bt3).toInt64)), .second, .unset, .unset, .unset, .unset, .unset, .unset, .unset] [(.long (((((0 : Int64) + ((own_bi bt0).toInt64)) + ((own_bi bt1).toInt64)) + ((own_bi bt2).toInt64)) + ((own_bi bt3).toInt64)))]) (fun t' k => XS.ifYes XK6.here hx rfl (pc0 := 299) (pc' := 306) rfl (hb hby at_299) rfl ((if0 _ _).trans (teq hc299).1) (by decide) (by decide) k) ?_
                                    refine own_go (mkF m 307 #[iv x0, jv x1, .second, iv x3, iv (own_bi bt0), iv (own_bi bt1), iv (own_bi bt2), iv (own_bi bt3), iv (own_bi bt4), iv (own_bi bt5), rv b1, rv b8, jv (0 : Int64), .second, jv ((0 : Int64) + ((own_bi bt0).toInt64)), .second, jv (((0 : Int64) + ((own_bi bt0).toInt64)) + ((own_bi bt1).toInt64)), .second, jv ((((0 : Int64) + ((own_bi bt0).toInt64)) + ((own_bi bt1).toInt64)) + ((own_bi bt2).toInt64)), .second, jv (((((0 : Int64) + ((own_bi bt0).toInt64)) + ((own_bi bt1).toInt64)) + ((own_bi bt2).toInt64)) + ((own_bi bt3).toInt64)), .second, .unset, .unset, .unset, .unset, .unset, .unset, .unset] [(.int (0 : Int32)), (.long (((((0 : Int64) + ((own_bi bt0).toInt64)) + ((own_bi bt1).toInt64)) + ((own_bi bt2).toInt64)) + ((own_bi bt3).toInt64)))]) (fun t' k => XS.iconst XK6.here hx rfl (hb hby at_306) k) ?_
                                    exact JQ4 ((0 : Int32)) (by cases bt4 <;> first | rfl | exact absurd hc299 (by decide) | exact absurd rfl hc299)
                                  · skip
                                    refine own_go (mkF m 302 #[iv x0, jv x1, .second, iv x3, iv (own_bi bt0), iv (own_bi bt1), iv (own_bi bt2), iv (own_bi bt3), iv (own_bi bt4), iv (own_bi bt5), rv b1, rv b8, jv (0 : Int64), .second, jv ((0 : Int64) + ((own_bi bt0).toInt64)), .second, jv (((0 : Int64) + ((own_bi bt0).toInt64)) + ((own_bi bt1).toInt64)), .second, jv ((((0 : Int64) + ((own_bi bt0).toInt64)) + ((own_bi bt1).toInt64)) + ((own_bi bt2).toInt64)), .second, jv (((((0 : Int64) + ((own_bi bt0).toInt64)) + ((own_bi bt1).toInt64)) + ((own_bi bt2).toInt64)) + ((own_bi bt3).toInt64)), .second, .unset, .unset, .unset, .unset, .unset, .unset, .unset] [(.long (((((0 : Int64) + ((own_bi bt0).toInt64)) + ((own_bi bt1).toInt64)) + ((own_bi bt2).toInt64)) + ((own_bi bt3).toInt64)))]) (fun t' k => XS.ifNo XK6.here hx rfl (hb hby at_299) rfl ((if0 _ _).trans (feq hc299).1) k) ?_
                                    refine own_go (mkF m 303 #[iv x0, jv x1, .second, iv x3, iv (own_bi bt0), iv (own_bi bt1), iv (own_bi bt2), iv (own_bi bt3), iv (own_bi bt4), iv (own_bi bt5), rv b1, rv b8, jv (0 : Int64), .second, jv ((0 : Int64) + ((own_bi bt0).toInt64)), .second, jv (((0 : Int64) + ((own_bi bt0).toInt64)) + ((own_bi bt1).toInt64)), .second, jv ((((0 : Int64) + ((own_bi bt0).toInt64)) + ((own_bi bt1).toInt64)) + ((own_bi bt2).toInt64)), .second, jv (((((0 : Int64) + ((own_bi bt0).toInt64)) + ((own_bi bt1).toInt64)) + ((own_bi bt2).toInt64)) + ((own_bi bt3).toInt64)), .second, .unset, .unset, .unset, .unset, .unset, .unset, .unset] [(.int (1 : Int32)), (.long (((((0 : Int64) + ((own_bi bt0).toInt64)) + ((own_bi bt1).toInt64)) + ((own_bi bt2).toInt64)) + ((own_bi bt3).toInt64)))]) (fun t' k => XS.iconst XK6.here hx rfl (hb hby at_302) k) ?_
                                    refine own_go (mkF m 307 #[iv x0, jv x1, .second, iv x3, iv (own_bi bt0), iv (own_bi bt1), iv (own_bi bt2), iv (own_bi bt3), iv (own_bi bt4), iv (own_bi bt5), rv b1, rv b8, jv (0 : Int64), .second, jv ((0 : Int64) + ((own_bi bt0).toInt64)), .second, jv (((0 : Int64) + ((own_bi bt0).toInt64)) + ((own_bi bt1).toInt64)), .second, jv ((((0 : Int64) + ((own_bi bt0).toInt64)) + ((own_bi bt1).toInt64)) + ((own_bi bt2).toInt64)), .second, jv (((((0 : Int64) + ((own_bi bt0).toInt64)) + ((own_bi bt1).toInt64)) + ((own_bi bt2).toInt64)) + ((own_bi bt3).toInt64)), .second, .unset, .unset, .unset, .unset, .unset, .unset, .unset] [(.int (1 : Int32)), (.long (((((0 : Int64) + ((own_bi bt0).toInt64)) + ((own_bi bt1).toInt64)) + ((own_bi bt2).toInt64)) + ((own_bi bt3).toInt64)))]) (fun t' k => XS.goto XK6.here hx rfl (pc0 := 303) (pc' := 307) rfl (hb hby at_303) (by decide) (by decide) k) ?_
                                    exact JQ4 ((1 : Int32)) (by cases bt4 <;> first | rfl | exact absurd hc299 (by decide) | exact absurd rfl hc299)
                                refine own_go (mkF m 283 #[iv x0, jv x1, .second, iv x3, iv (own_bi bt0), iv (own_bi bt1), iv (own_bi bt2), iv (own_bi bt3), iv (own_bi bt4), iv (own_bi bt5), rv b1, rv b8, jv (0 : Int64), .second, jv ((0 : Int64) + ((own_bi bt0).toInt64)), .second, jv (((0 : Int64) + ((own_bi bt0).toInt64)) + ((own_bi bt1).toInt64)), .second, jv ((((0 : Int64) + ((own_bi bt0).toInt64)) + ((own_bi bt1).toInt64)) + ((own_bi bt2).toInt64)), .second, .unset, .unset, .unset, .unset, .unset, .unset, .unset, .unset, .unset] [(.int (own_bi bt3)), (.long ((((0 : Int64) + ((own_bi bt0).toInt64)) + ((own_bi bt1).toInt64)) + ((own_bi bt2).toInt64)))]) (fun t' k => XS.iload XK6.here hx rfl (hb hby at_281) rfl  k) ?_
                                by_cases hc283 : (own_bi bt3) = (0 : Int32)
                                · skip
                                  refine own_go (mkF m 290 #[iv x0, jv x1, .second, iv x3, iv (own_bi bt0), iv (own_bi bt1), iv (own_bi bt2), iv (own_bi bt3), iv (own_bi bt4), iv (own_bi bt5), rv b1, rv b8, jv (0 : Int64), .second, jv ((0 : Int64) + ((own_bi bt0).toInt64)), .second, jv (((0 : Int64) + ((own_bi bt0).toInt64)) + ((own_bi bt1).toInt64)), .second, jv ((((0 : Int64) + ((own_bi bt0).toInt64)) + ((own_bi bt1).toInt64)) + ((own_bi bt2).toInt64)), .second, .unset, .unset, .unset, .unset, .unset, .unset, .unset, .unset, .unset] [(.long ((((0 : Int64) + ((own_bi bt0).toInt64)) + ((own_bi bt1).toInt64)) + ((own_bi bt2).toInt64)))]) (fun t' k => XS.ifYes XK6.here hx rfl (pc0 := 283) (pc' := 290) rfl (hb hby at_283) rfl ((if0 _ _).trans (teq hc283).1) (by decide) (by decide) k) ?_
                                  refine own_go (mkF m 291 #[iv x0, jv x1, .second, iv x3, iv (own_bi bt0), iv (own_bi bt1), iv (own_bi bt2), iv (own_bi bt3), iv (own_bi bt4), iv (own_bi bt5), rv b1, rv b8, jv (0 : Int64), .second, jv ((0 : Int64) + ((own_bi bt0).toInt64)), .second, jv (((0 : Int64) + ((own_bi bt0).toInt64)) + ((own_bi bt1).toInt64)), .second, jv ((((0 : Int64) + ((own_bi bt0).toInt64)) + ((own_bi bt1).toInt64)) + ((own_bi bt2).toInt64)), .second, .unset, .unset, .unset, .unset, .unset, .unset, .unset, .unset, .unset] [(.int (0 : Int32)), (.long ((((0 : Int64) + ((own_bi bt0).toInt64)) + ((own_bi bt1).toInt64)) + ((own_bi bt2).toInt64)))]) (fun t' k => XS.iconst XK6.here hx rfl (hb hby at_290) k) ?_
                                  exact JQ3 ((0 : Int32)) (by cases bt3 <;> first | rfl | exact absurd hc283 (by decide) | exact absurd rfl hc283)
                                · skip
                                  refine own_go (mkF m 286 #[iv x0, jv x1, .second, iv x3, iv (own_bi bt0), iv (own_bi bt1), iv (own_bi bt2), iv (own_bi bt3), iv (own_bi bt4), iv (own_bi bt5), rv b1, rv b8, jv (0 : Int64), .second, jv ((0 : Int64) + ((own_bi bt0).toInt64)), .second, jv (((0 : Int64) + ((own_bi bt0).toInt64)) + ((own_bi bt1).toInt64)), .second, jv ((((0 : Int64) + ((own_bi bt0).toInt64)) + ((own_bi bt1).toInt64)) + ((own_bi bt2).toInt64)), .second, .unset, .unset, .unset, .unset, .unset, .unset, .unset, .unset, .unset] [(.long ((((0 : Int64) + ((own_bi bt0).toInt64)) + ((own_bi bt1).toInt64)) + ((own_bi bt2).toInt64)))]) (fun t' k => XS.ifNo XK6.here hx rfl (hb hby at_283) rfl ((if0 _ _).trans (feq hc283).1) k) ?_
                                  refine own_go (mkF m 287 #[iv x0, jv x1, .second, iv x3, iv (own_bi bt0), iv (own_bi bt1), iv (own_bi bt2), iv (own_bi bt3), iv (own_bi bt4), iv (own_bi bt5), rv b1, rv b8, jv (0 : Int64), .second, jv ((0 : Int64) + ((own_bi bt0).toInt64)), .second, jv (((0 : Int64) + ((own_bi bt0).toInt64)) + ((own_bi bt1).toInt64)), .second, jv ((((0 : Int64) + ((own_bi bt0).toInt64)) + ((own_bi bt1).toInt64)) + ((own_bi bt2).toInt64)), .second, .unset, .unset, .unset, .unset, .unset, .unset, .unset, .unset, .unset] [(.int (1 : Int32)), (.long ((((0 : Int64) + ((own_bi bt0).toInt64)) + ((own_bi bt1).toInt64)) + ((own_bi bt2).toInt64)))]) (fun t' k => XS.iconst XK6.here hx rfl (hb hby at_286) k) ?_
                                  refine own_go (mkF m 291 #[iv x0, jv x1, .second, iv x3, iv (own_bi bt0), iv (own_bi bt1), iv (own_bi bt2), iv (own_bi bt3), iv (own_bi bt4), iv (own_bi bt5), rv b1, rv b8, jv (0 : Int64), .second, jv ((0 : Int64) + ((own_bi bt0).toInt64)), .second, jv (((0 : Int64) + ((own_bi bt0).toInt64)) + ((own_bi bt1).toInt64)), .second, jv ((((0 : Int64) + ((own_bi bt0).toInt64)) + ((own_bi bt1).toInt64)) + ((own_bi bt2).toInt64)), .second, .unset, .unset, .unset, .unset, .unset, .unset, .unset, .unset, .unset] [(.int (1 : Int32)), (.long ((((0 : Int64) + ((own_bi bt0).toInt64)) + ((own_bi bt1).toInt64)) + ((own_bi bt2).toInt64)))]) (fun t' k => XS.goto XK6.here hx rfl (pc0 := 287) (pc' := 291) rfl (hb hby at_287) (by decide) (by decide) k) ?_
                                  exact JQ3 ((1 : Int32)) (by cases bt3 <;> first | rfl | exact absurd hc283 (by decide) | exact absurd rfl hc283)
                              refine own_go (mkF m 267 #[iv x0, jv x1, .second, iv x3, iv (own_bi bt0), iv (own_bi bt1), iv (own_bi bt2), iv (own_bi bt3), iv (own_bi bt4), iv (own_bi bt5), rv b1, rv b8, jv (0 : Int64), .second, jv ((0 : Int64) + ((own_bi bt0).toInt64)), .second, jv (((0 : Int64) + ((own_bi bt0).toInt64)) + ((own_bi bt1).toInt64)), .second, .unset, .unset, .unset, .unset, .unset, .unset, .unset, .unset, .unset, .unset, .unset] [(.int (own_bi bt2)), (.long (((0 : Int64) + ((own_bi bt0).toInt64)) + ((own_bi bt1).toInt64)))]) (fun t' k => XS.iload XK6.here hx rfl (hb hby at_265) rfl  k) ?_
                              by_cases hc267 : (own_bi bt2) = (0 : Int32)
                              · skip
                                refine own_go (mkF m 274 #[iv x0, jv x1, .second, iv x3, iv (own_bi bt0), iv (own_bi bt1), iv (own_bi bt2), iv (own_bi bt3), iv (own_bi bt4), iv (own_bi bt5), rv b1, rv b8, jv (0 : Int64), .second, jv ((0 : Int64) + ((own_bi bt0).toInt64)), .second, jv (((0 : Int64) + ((own_bi bt0).toInt64)) + ((own_bi bt1).toInt64)), .second, .unset, .unset, .unset, .unset, .unset, .unset, .unset, .unset, .unset, .unset, .unset] [(.long (((0 : Int64) + ((own_bi bt0).toInt64)) + ((own_bi bt1).toInt64)))]) (fun t' k => XS.ifYes XK6.here hx rfl (pc0 := 267) (pc' := 274) rfl (hb hby at_267) rfl ((if0 _ _).trans (teq hc267).1) (by decide) (by decide) k) ?_
                                refine own_go (mkF m 275 #[iv x0, jv x1, .second, iv x3, iv (own_bi bt0), iv (own_bi bt1), iv (own_bi bt2), iv (own_bi bt3), iv (own_bi bt4), iv (own_bi bt5), rv b1, rv b8, jv (0 : Int64), .second, jv ((0 : Int64) + ((own_bi bt0).toInt64)), .second, jv (((0 : Int64) + ((own_bi bt0).toInt64)) + ((own_bi bt1).toInt64)), .second, .unset, .unset, .unset, .unset, .unset, .unset, .unset, .unset, .unset, .unset, .unset] [(.int (0 : Int32)), (.long (((0 : Int64) + ((own_bi bt0).toInt64)) + ((own_bi bt1).toInt64)))]) (fun t' k => XS.iconst XK6.here hx rfl (hb hby at_274) k) ?_
                                exact JQ2 ((0 : Int32)) (by cases bt2 <;> first | rfl | exact absurd hc267 (by decide) | exact absurd rfl hc267)
                              · skip
                                refine own_go (mkF m 270 #[iv x0, jv x1, .second, iv x3, iv (own_bi bt0), iv (own_bi bt1), iv (own_bi bt2), iv (own_bi bt3), iv (own_bi bt4), iv (own_bi bt5), rv b1, rv b8, jv (0 : Int64), .second, jv ((0 : Int64) + ((own_bi bt0).toInt64)), .second, jv (((0 : Int64) + ((own_bi bt0).toInt64)) + ((own_bi bt1).toInt64)), .second, .unset, .unset, .unset, .unset, .unset, .unset, .unset, .unset, .unset, .unset, .unset] [(.long (((0 : Int64) + ((own_bi bt0).toInt64)) + ((own_bi bt1).toInt64)))]) (fun t' k => XS.ifNo XK6.here hx rfl (hb hby at_267) rfl ((if0 _ _).trans (feq hc267).1) k) ?_
                                refine own_go (mkF m 271 #[iv x0, jv x1, .second, iv x3, iv (own_bi bt0), iv (own_bi bt1), iv (own_bi bt2), iv (own_bi bt3), iv (own_bi bt4), iv (own_bi bt5), rv b1, rv b8, jv (0 : Int64), .second, jv ((0 : Int64) + ((own_bi bt0).toInt64)), .second, jv (((0 : Int64) + ((own_bi bt0).toInt64)) + ((own_bi bt1).toInt64)), .second, .unset, .unset, .unset, .unset, .unset, .unset, .unset, .unset, .unset, .unset, .unset] [(.int (1 : Int32)), (.long (((0 : Int64) + ((own_bi bt0).toInt64)) + ((own_bi bt1).toInt64)))]) (fun t' k => XS.iconst XK6.here hx rfl (hb hby at_270) k) ?_
                                refine own_go (mkF m 275 #[iv x0, jv x1, .second, iv x3, iv (own_bi bt0), iv (own_bi bt1), iv (own_bi bt2), iv (own_bi bt3), iv (own_bi bt4), iv (own_bi bt5), rv b1, rv b8, jv (0 : Int64), .second, jv ((0 : Int64) + ((own_bi bt0).toInt64)), .second, jv (((0 : Int64) + ((own_bi bt0).toInt64)) + ((own_bi bt1).toInt64)), .second, .unset, .unset, .unset, .unset, .unset, .unset, .unset, .unset, .unset, .unset, .unset] [(.int (1 : Int32)), (.long (((0 : Int64) + ((own_bi bt0).toInt64)) + ((own_bi bt1).toInt64)))]) (fun t' k => XS.goto XK6.here hx rfl (pc0 := 271) (pc' := 275) rfl (hb hby at_271) (by decide) (by decide) k) ?_
                                exact JQ2 ((1 : Int32)) (by cases bt2 <;> first | rfl | exact absurd hc267 (by decide) | exact absurd rfl hc267)
                            refine own_go (mkF m 251 #[iv x0, jv x1, .second, iv x3, iv (own_bi bt0), iv (own_bi bt1), iv (own_bi bt2), iv (own_bi bt3), iv (own_bi bt4), iv (own_bi bt5), rv b1, rv b8, jv (0 : Int64), .second, jv ((0 : Int64) + ((own_bi bt0).toInt64)), .second, .unset, .unset, .unset, .unset, .unset, .unset, .unset, .unset, .unset, .unset, .unset, .unset, .unset] [(.int (own_bi bt1)), (.long ((0 : Int64) + ((own_bi bt0).toInt64)))]) (fun t' k => XS.iload XK6.here hx rfl (hb hby at_249) rfl  k) ?_
                            by_cases hc251 : (own_bi bt1) = (0 : Int32)
                            · skip
                              refine own_go (mkF m 258 #[iv x0, jv x1, .second, iv x3, iv (own_bi bt0), iv (own_bi bt1), iv (own_bi bt2), iv (own_bi bt3), iv (own_bi bt4), iv (own_bi bt5), rv b1, rv b8, jv (0 : Int64), .second, jv ((0 : Int64) + ((own_bi bt0).toInt64)), .second, .unset, .unset, .unset, .unset, .unset, .unset, .unset, .unset, .unset, .unset, .unset, .unset, .unset] [(.long ((0 : Int64) + ((own_bi bt0).toInt64)))]) (fun t' k => XS.ifYes XK6.here hx rfl (pc0 := 251) (pc' := 258) rfl (hb hby at_251) rfl ((if0 _ _).trans (teq hc251).1) (by decide) (by decide) k) ?_
                              refine own_go (mkF m 259 #[iv x0, jv x1, .second, iv x3, iv (own_bi bt0), iv (own_bi bt1), iv (own_bi bt2), iv (own_bi bt3), iv (own_bi bt4), iv (own_bi bt5), rv b1, rv b8, jv (0 : Int64), .second, jv ((0 : Int64) + ((own_bi bt0).toInt64)), .second, .unset, .unset, .unset, .unset, .unset, .unset, .unset, .unset, .unset, .unset, .unset, .unset, .unset] [(.int (0 : Int32)), (.long ((0 : Int64) + ((own_bi bt0).toInt64)))]) (fun t' k => XS.iconst XK6.here hx rfl (hb hby at_258) k) ?_
                              exact JQ1 ((0 : Int32)) (by cases bt1 <;> first | rfl | exact absurd hc251 (by decide) | exact absurd rfl hc251)
                            · skip
                              refine own_go (mkF m 254 #[iv x0, jv x1, .second, iv x3, iv (own_bi bt0), iv (own_bi bt1), iv (own_bi bt2), iv (own_bi bt3), iv (own_bi bt4), iv (own_bi bt5), rv b1, rv b8, jv (0 : Int64), .second, jv ((0 : Int64) + ((own_bi bt0).toInt64)), .second, .unset, .unset, .unset, .unset, .unset, .unset, .unset, .unset, .unset, .unset, .unset, .unset, .unset] [(.long ((0 : Int64) + ((own_bi bt0).toInt64)))]) (fun t' k => XS.ifNo XK6.here hx rfl (hb hby at_251) rfl ((if0 _ _).trans (feq hc251).1) k) ?_
                              refine own_go (mkF m 255 #[iv x0, jv x1, .second, iv x3, iv (own_bi bt0), iv (own_bi bt1), iv (own_bi bt2), iv (own_bi bt3), iv (own_bi bt4), iv (own_bi bt5), rv b1, rv b8, jv (0 : Int64), .second, jv ((0 : Int64) + ((own_bi bt0).toInt64)), .second, .unset, .unset, .unset, .unset, .unset, .unset, .unset, .unset, .unset, .unset, .unset, .unset, .unset] [(.int (1 : Int32)), (.long ((0 : Int64) + ((own_bi bt0).toInt64)))]) (fun t' k => XS.iconst XK6.here hx rfl (hb hby at_254) k) ?_
                              refine own_go (mkF m 259 #[iv x0, jv x1, .second, iv x3, iv (own_bi bt0), iv (own_bi bt1), iv (own_bi bt2), iv (own_bi bt3), iv (own_bi bt4), iv (own_bi bt5), rv b1, rv b8, jv (0 : Int64), .second, jv ((0 : Int64) + ((own_bi bt0).toInt64)), .second, .unset, .unset, .unset, .unset, .unset, .unset, .unset, .unset, .unset, .unset, .unset, .unset, .unset] [(.int (1 : Int32)), (.long ((0 : Int64) + ((own_bi bt0).toInt64)))]) (fun t' k => XS.goto XK6.here hx rfl (pc0 := 255) (pc' := 259) rfl (hb hby at_255) (by decide) (by decide) k) ?_
                              exact JQ1 ((1 : Int32)) (by cases bt1 <;> first | rfl | exact absurd hc251 (by decide) | exact absurd rfl hc251)
                          refine own_go (mkF m 235 #[iv x0, jv x1, .second, iv x3, iv (own_bi bt0), iv (own_bi bt1), iv (own_bi bt2), iv (own_bi bt3), iv (own_bi bt4), iv (own_bi bt5), rv b1, rv b8, jv (0 : Int64), .second, .unset, .unset, .unset, .unset, .unset, .unset, .unset, .unset, .unset, .unset, .unset, .unset, .unset, .unset, .unset] [(.int (own_bi bt0)), (.long (0 : Int64))]) (fun t' k => XS.iload XK6.here hx rfl (hb hby at_233) rfl  k) ?_
                          by_cases hc235 : (own_bi bt0) = (0 : Int32)
                          · skip
                            refine own_go (mkF m 242 #[iv x0, jv x1, .second, iv x3, iv (own_bi bt0), iv (own_bi bt1), iv (own_bi bt2), iv (own_bi bt3), iv (own_bi bt4), iv (own_bi bt5), rv b1, rv b8, jv (0 : Int64), .second, .unset, .unset, .unset, .unset, .unset, .unset, .unset, .unset, .unset, .unset, .unset, .unset, .unset, .unset, .unset] [(.long (0 : Int64))]) (fun t' k => XS.ifYes XK6.here hx rfl (pc0 := 235) (pc' := 242) rfl (hb hby at_235) rfl ((if0 _ _).trans (teq hc235).1) (by decide) (by decide) k) ?_
                            refine own_go (mkF m 243 #[iv x0, jv x1, .second, iv x3, iv (own_bi bt0), iv (own_bi bt1), iv (own_bi bt2), iv (own_bi bt3), iv (own_bi bt4), iv (own_bi bt5), rv b1, rv b8, jv (0 : Int64), .second, .unset, .unset, .unset, .unset, .unset, .unset, .unset, .unset, .unset, .unset, .unset, .unset, .unset, .unset, .unset] [(.int (0 : Int32)), (.long (0 : Int64))]) (fun t' k => XS.iconst XK6.here hx rfl (hb hby at_242) k) ?_
                            exact JQ0 ((0 : Int32)) (by cases bt0 <;> first | rfl | exact absurd hc235 (by decide) | exact absurd rfl hc235)
                          · skip
                            refine own_go (mkF m 238 #[iv x0, jv x1, .second, iv x3, iv (own_bi bt0), iv (own_bi bt1), iv (own_bi bt2), iv (own_bi bt3), iv (own_bi bt4), iv (own_bi bt5), rv b1, rv b8, jv (0 : Int64), .second, .unset, .unset, .unset, .unset, .unset, .unset, .unset, .unset, .unset, .unset, .unset, .unset, .unset, .unset, .unset] [(.long (0 : Int64))]) (fun t' k => XS.ifNo XK6.here hx rfl (hb hby at_235) rfl ((if0 _ _).trans (feq hc235).1) k) ?_
                            refine own_go (mkF m 239 #[iv x0, jv x1, .second, iv x3, iv (own_bi bt0), iv (own_bi bt1), iv (own_bi bt2), iv (own_bi bt3), iv (own_bi bt4), iv (own_bi bt5), rv b1, rv b8, jv (0 : Int64), .second, .unset, .unset, .unset, .unset, .unset, .unset, .unset, .unset, .unset, .unset, .unset, .unset, .unset, .unset, .unset] [(.int (1 : Int32)), (.long (0 : Int64))]) (fun t' k => XS.iconst XK6.here hx rfl (hb hby at_238) k) ?_
                            refine own_go (mkF m 243 #[iv x0, jv x1, .second, iv x3, iv (own_bi bt0), iv (own_bi bt1), iv (own_bi bt2), iv (own_bi bt3), iv (own_bi bt4), iv (own_bi bt5), rv b1, rv b8, jv (0 : Int64), .second, .unset, .unset, .unset, .unset, .unset, .unset, .unset, .unset, .unset, .unset, .unset, .unset, .unset, .unset, .unset] [(.int (1 : Int32)), (.long (0 : Int64))]) (fun t' k => XS.goto XK6.here hx rfl (pc0 := 239) (pc' := 243) rfl (hb hby at_239) (by decide) (by decide) k) ?_
                            exact JQ0 ((1 : Int32)) (by cases bt0 <;> first | rfl | exact absurd hc235 (by decide) | exact absurd rfl hc235)
                        refine own_go (mkF m 219 #[iv x0, jv x1, .second, iv x3, iv (own_bi bt0), iv (own_bi bt1), iv (own_bi bt2), iv (own_bi bt3), iv (own_bi bt4), iv (own_bi bt5), rv b1, rv b8, .unset, .unset, .unset, .unset, .unset, .unset, .unset, .unset, .unset, .unset, .unset, .unset, .unset, .unset, .unset, .unset, .unset] [(.int (own_bi bt5))]) (fun t' k => XS.iload XK5.here hx rfl (hb hby at_217) rfl  k) ?_
                        cases bt5
                        · skip
                          refine own_go (mkF m 222 #[iv x0, jv x1, .second, iv x3, iv (own_bi bt0), iv (own_bi bt1), iv (own_bi bt2), iv (own_bi bt3), iv (own_bi bt4), iv (own_bi false), rv b1, rv b8, .unset, .unset, .unset, .unset, .unset, .unset, .unset, .unset, .unset, .unset, .unset, .unset, .unset, .unset, .unset, .unset, .unset] []) (fun t' k => XS.ifNo XK5.here hx rfl (hb hby at_219) rfl ((if0 _ _).trans (teq (by decide)).2) k) ?_
                          refine own_go (mkF m 224 #[iv x0, jv x1, .second, iv x3, iv (own_bi bt0), iv (own_bi bt1), iv (own_bi bt2), iv (own_bi bt3), iv (own_bi bt4), iv (own_bi false), rv b1, rv b8, .unset, .unset, .unset, .unset, .unset, .unset, .unset, .unset, .unset, .unset, .unset, .unset, .unset, .unset, .unset, .unset, .unset] [(.ref b8)]) (fun t' k => XS.aload XK5.here hx rfl (hb hby at_222) rfl rfl  k) ?_
                          refine own_go (mkF m 225 #[iv x0, jv x1, .second, iv x3, iv (own_bi bt0), iv (own_bi bt1), iv (own_bi bt2), iv (own_bi bt3), iv (own_bi bt4), iv (own_bi false), rv b1, rv b8, .unset, .unset, .unset, .unset, .unset, .unset, .unset, .unset, .unset, .unset, .unset, .unset, .unset, .unset, .unset, .unset, .unset] [(.int (5 : Int32)), (.ref b8)]) (fun t' k => XS.iconst XK5.here hx rfl (hb hby at_224) k) ?_
                          have E11 := HK5.2.2.1.1
                          refine XK5.callV hx hZ (y := (⟨"com/example/load_across_peers/loadacrosspeers/internal/pick/WeightTree", "withdraw", "(I)V"⟩ : MethodName)) (C := "com/example/load_across_peers/loadacrosspeers/internal/pick/WeightTree") hown (hw _ (List.mem_of_getElem? (i := 44) rfl)) (hw _ (List.mem_of_getElem? (i := 45) rfl)) (hw _ (List.mem_of_getElem? (i := 47) rfl)) (hw _ (List.mem_of_getElem? (i := 46) rfl)) (hw _ (List.mem_of_getElem? (i := 3) rfl)) (hw _ (List.mem_of_getElem? (i := 48) rfl)) (by decide) rfl E11 [(.int (5 : Int32))] [] (own_rmW5 l Z a0 hw [] TK5.heap h0.size b8 b1 bp bs bc _ _ _ _ _ _ _ HK5) 0 (by decide) (by decide) (Nat.le_of_eq rfl) (by decide) (by decide) (by rw [hml]; rfl) (lenOf own_pd5 rfl) rfl (hb hby at_225) ?_
                          rintro T11 _ X11 ⟨rfl, HT11⟩
                          replace HT11 : own_T Z T11.heap h0.size b8 b1 bp bs bc (own_cs bt0 bt1 bt2 bt3 bt4 false) := by
                            have q : ([(.int (0 : Int32)), (.int (own_bi bt0)), (.int ((own_bi bt0) + (own_bi bt1))), (.int (own_bi bt2)), (.int ((own_bi bt0) + (own_bi bt1) + (own_bi bt2) + (own_bi bt3))), (.int (own_bi bt4)), (.int (((own_bi bt4) + (own_bi true)) + (-1 : Int32)))] : List Value) = own_cs bt0 bt1 bt2 bt3 bt4 false := by cases bt0 <;> cases bt1 <;> cases bt2 <;> cases bt3 <;> cases bt4 <;> rfl
                            rw [← q]; exact HT11
                          show own_G p e below s _ _ _ T11 (mkF m 228 #[iv x0, jv x1, .second, iv x3, iv (own_bi bt0), iv (own_bi bt1), iv (own_bi bt2), iv (own_bi bt3), iv (own_bi bt4), iv (own_bi false), rv b1, rv b8, .unset, .unset, .unset, .unset, .unset, .unset, .unset, .unset, .unset, .unset, .unset, .unset, .unset, .unset, .unset, .unset, .unset] [])
                          exact K6 T11 (X11.more (by decide) (by decide)) (HT11)
                        · skip
                          refine own_go (mkF m 228 #[iv x0, jv x1, .second, iv x3, iv (own_bi bt0), iv (own_bi bt1), iv (own_bi bt2), iv (own_bi bt3), iv (own_bi bt4), iv (own_bi true), rv b1, rv b8, .unset, .unset, .unset, .unset, .unset, .unset, .unset, .unset, .unset, .unset, .unset, .unset, .unset, .unset, .unset, .unset, .unset] []) (fun t' k => XS.ifYes XK5.here hx rfl (pc0 := 219) (pc' := 228) rfl (hb hby at_219) rfl ((if0 _ _).trans (feq (by decide)).2) (by decide) (by decide) k) ?_
                          exact K6 TK5 (XK5.more (by decide) (by decide)) (HK5)
                      refine own_go (mkF m 208 #[iv x0, jv x1, .second, iv x3, iv (own_bi bt0), iv (own_bi bt1), iv (own_bi bt2), iv (own_bi bt3), iv (own_bi bt4), iv (own_bi bt5), rv b1, rv b8, .unset, .unset, .unset, .unset, .unset, .unset, .unset, .unset, .unset, .unset, .unset, .unset, .unset, .unset, .unset, .unset, .unset] [(.int (own_bi bt4))]) (fun t' k => XS.iload XK4.here hx rfl (hb hby at_206) rfl  k) ?_
                      cases bt4
                      · skip
                        refine own_go (mkF m 211 #[iv x0, jv x1, .second, iv x3, iv (own_bi bt0), iv (own_bi bt1), iv (own_bi bt2), iv (own_bi bt3), iv (own_bi false), iv (own_bi bt5), rv b1, rv b8, .unset, .unset, .unset, .unset, .unset, .unset, .unset, .unset, .unset, .unset, .unset, .unset, .unset, .unset, .unset, .unset, .unset] []) (fun t' k => XS.ifNo XK4.here hx rfl (hb hby at_208) rfl ((if0 _ _).trans (teq (by decide)).2) k) ?_
                        refine own_go (mkF m 213 #[iv x0, jv x1, .second, iv x3, iv (own_bi bt0), iv (own_bi bt1), iv (own_bi bt2), iv (own_bi bt3), iv (own_bi false), iv (own_bi bt5), rv b1, rv b8, .unset, .unset, .unset, .unset, .unset, .unset, .unset, .unset, .unset, .unset, .unset, .unset, .unset, .unset, .unset, .unset, .unset] [(.ref b8)]) (fun t' k => XS.aload XK4.here hx rfl (hb hby at_211) rfl rfl  k) ?_
                        refine own_go (mkF m 214 #[iv x0, jv x1, .second, iv x3, iv (own_bi bt0), iv (own_bi bt1), iv (own_bi bt2), iv (own_bi bt3), iv (own_bi false), iv (own_bi bt5), rv b1, rv b8, .unset, .unset, .unset, .unset, .unset, .unset, .unset, .unset, .unset, .unset, .unset, .unset, .unset, .unset, .unset, .unset, .unset] [(.int (4 : Int32)), (.ref b8)]) (fun t' k => XS.iconst XK4.here hx rfl (hb hby at_213) k) ?_
                        have E12 := HK4.2.2.1.1
                        refine XK4.callV hx hZ (y := (⟨"com/example/load_across_peers/loadacrosspeers/internal/pick/WeightTree", "withdraw", "(I)V"⟩ : MethodName)) (C := "com/example/load_across_peers/loadacrosspeers/internal/pick/WeightTree") hown (hw _ (List.mem_of_getElem? (i := 44) rfl)) (hw _ (List.mem_of_getElem? (i := 45) rfl)) (hw _ (List.mem_of_getElem? (i := 47) rfl)) (hw _ (List.mem_of_getElem? (i := 46) rfl)) (hw _ (List.mem_of_getElem? (i := 3) rfl)) (hw _ (List.mem_of_getElem? (i := 48) rfl)) (by decide) rfl E12 [(.int (4 : Int32))] [] (own_rmW4 l Z a0 hw [] TK4.heap h0.size b8 b1 bp bs bc _ _ _ _ _ _ _ HK4) 0 (by decide) (by decide) (Nat.le_of_eq rfl) (by decide) (by decide) (by rw [hml]; rfl) (lenOf own_pd5 rfl) rfl (hb hby at_214) ?_
                        rintro T12 _ X12 ⟨rfl, HT12⟩
                        replace HT12 : own_T Z T12.heap h0.size b8 b1 bp bs bc (own_cs bt0 bt1 bt2 bt3 false true) := by
                          have q : ([(.int (0 : Int32)), (.int (own_bi bt0)), (.int ((own_bi bt0) + (own_bi bt1))), (.int (own_bi bt2)), (.int ((own_bi bt0) + (own_bi bt1) + (own_bi bt2) + (own_bi bt3))), (.int ((own_bi true) + (-1 : Int32))), (.int (((own_bi true) + (own_bi true)) + (-1 : Int32)))] : List Value) = own_cs bt0 bt1 bt2 bt3 false true := by cases bt0 <;> cases bt1 <;> cases bt2 <;> cases bt3 <;> rfl
                          rw [← q]; exact HT12
                        show own_G p e below s _ _ _ T12 (mkF m 217 #[iv x0, jv x1, .second, iv x3, iv (own_bi bt0), iv (own_bi bt1), iv (own_bi bt2), iv (own_bi bt3), iv (own_bi false), iv (own_bi bt5), rv b1, rv b8, .unset, .unset, .unset, .unset, .unset, .unset, .unset, .unset, .unset, .unset, .unset, .unset, .unset, .unset, .unset, .unset, .unset] [])
                        exact K5 T12 (X12.more (by decide) (by decide)) (HT12)
                      · skip
                        refine own_go (mkF m 217 #[iv x0, jv x1, .second, iv x3, iv (own_bi bt0), iv (own_bi bt1), iv (own_bi bt2), iv (own_bi bt3), iv (own_bi true), iv (own_bi bt5), rv b1, rv b8, .unset, .unset, .unset, .unset, .unset, .unset, .unset, .unset, .unset, .unset, .unset, .unset, .unset, .unset, .unset, .unset, .unset] []) (fun t' k => XS.ifYes XK4.here hx rfl (pc0 := 208) (pc' := 217) rfl (hb hby at_208) rfl ((if0 _ _).trans (feq (by decide)).2) (by decide) (by decide) k) ?_
                        exact K5 TK4 (XK4.more (by decide) (by decide)) (HK4)
                    refine own_go (mkF m 197 #[iv x0, jv x1, .second, iv x3, iv (own_bi bt0), iv (own_bi bt1), iv (own_bi bt2), iv (own_bi bt3), iv (own_bi bt4), iv (own_bi bt5), rv b1, rv b8, .unset, .unset, .unset, .unset, .unset, .unset, .unset, .unset, .unset, .unset, .unset, .unset, .unset, .unset, .unset, .unset, .unset] [(.int (own_bi bt3))]) (fun t' k => XS.iload XK3.here hx rfl (hb hby at_195) rfl  k) ?_
                    cases bt3
                    · skip
                      refine own_go (mkF m 200 #[iv x0, jv x1, .second, iv x3, iv (own_bi bt0), iv (own_bi bt1), iv (own_bi bt2), iv (own_bi false), iv (own_bi bt4), iv (own_bi bt5), rv b1, rv b8, .unset, .unset, .unset, .unset, .unset, .unset, .unset, .unset, .unset, .unset, .unset, .unset, .unset, .unset, .unset, .unset, .unset] []) (fun t' k => XS.ifNo XK3.here hx rfl (hb hby at_197) rfl ((if0 _ _).trans (teq (by decide)).2) k) ?_
                      refine own_go (mkF m 202 #[iv x0, jv x1, .second, iv x3, iv (own_bi bt0), iv (own_bi bt1), iv (own_bi bt2), iv (own_bi false), iv (own_bi bt4), iv (own_bi bt5), rv b1, rv b8, .unset, .unset, .unset, .unset, .unset, .unset, .unset, .unset, .unset, .unset, .unset, .unset, .unset, .unset, .unset, .unset, .unset] [(.ref b8)]) (fun t' k => XS.aload XK3.here hx rfl (hb hby at_200) rfl rfl  k) ?_
                      refine own_go (mkF m 203 #[iv x0, jv x1, .second, iv x3, iv (own_bi bt0), iv (own_bi bt1), iv (own_bi bt2), iv (own_bi false), iv (own_bi bt4), iv (own_bi bt5), rv b1, rv b8, .unset, .unset, .unset, .unset, .unset, .unset, .unset, .unset, .unset, .unset, .unset, .unset, .unset, .unset, .unset, .unset, .unset] [(.int (3 : Int32)), (.ref b8)]) (fun t' k => XS.iconst XK3.here hx rfl (hb hby at_202) k) ?_
                      have E13 := HK3.2.2.1.1
                      refine XK3.callV hx hZ (y := (⟨"com/example/load_across_peers/loadacrosspeers/internal/pick/WeightTree", "withdraw", "(I)V"⟩ : MethodName)) (C := "com/example/load_across_peers/loadacrosspeers/internal/pick/WeightTree") hown (hw _ (List.mem_of_getElem? (i := 44) rfl)) (hw _ (List.mem_of_getElem? (i := 45) rfl)) (hw _ (List.mem_of_getElem? (i := 47) rfl)) (hw _ (List.mem_of_getElem? (i := 46) rfl)) (hw _ (List.mem_of_getElem? (i := 3) rfl)) (hw _ (List.mem_of_getElem? (i := 48) rfl)) (by decide) rfl E13 [(.int (3 : Int32))] [] (own_rmW3 l Z a0 hw [] TK3.heap h0.size b8 b1 bp bs bc _ _ _ _ _ _ _ HK3) 0 (by decide) (by decide) (Nat.le_of_eq rfl) (by decide) (by decide) (by rw [hml]; rfl) (lenOf own_pd5 rfl) rfl (hb hby at_203) ?_
                      rintro T13 _ X13 ⟨rfl, HT13⟩
                      replace HT13 : own_T Z T13.heap h0.size b8 b1 bp bs bc (own_cs bt0 bt1 bt2 false true true) := by
                        have q : ([(.int (0 : Int32)), (.int (own_bi bt0)), (.int ((own_bi bt0) + (own_bi bt1))), (.int (own_bi bt2)), (.int (((own_bi bt0) + (own_bi bt1) + (own_bi bt2) + (own_bi true)) + (-1 : Int32))), (.int (own_bi true)), (.int ((own_bi true) + (own_bi true)))] : List Value) = own_cs bt0 bt1 bt2 false true true := by cases bt0 <;> cases bt1 <;> cases bt2 <;> rfl
                        rw [← q]; exact HT13
                      show own_G p e below s _ _ _ T13 (mkF m 206 #[iv x0, jv x1, .second, iv x3, iv (own_bi bt0), iv (own_bi bt1), iv (own_bi bt2), iv (own_bi false), iv (own_bi bt4), iv (own_bi bt5), rv b1, rv b8, .unset, .unset, .unset, .unset, .unset, .unset, .unset, .unset, .unset, .unset, .unset, .unset, .unset, .unset, .unset, .unset, .unset] [])
                      exact K4 T13 (X13.more (by decide) (by decide)) (HT13)
                    · skip
                      refine own_go (mkF m 206 #[iv x0, jv x1, .second, iv x3, iv (own_bi bt0), iv (own_bi bt1), iv (own_bi bt2), iv (own_bi true), iv (own_bi bt4), iv (own_bi bt5), rv b1, rv b8, .unset, .unset, .unset, .unset, .unset, .unset, .unset, .unset, .unset, .unset, .unset, .unset, .unset, .unset, .unset, .unset, .unset] []) (fun t' k => XS.ifYes XK3.here hx rfl (pc0 := 197) (pc' := 206) rfl (hb hby at_197) rfl ((if0 _ _).trans (feq (by decide)).2) (by decide) (by decide) k) ?_
                      exact K4 TK3 (XK3.more (by decide) (by decide)) (HK3)
                  refine own_go (mkF m 186 #[iv x0, jv x1, .second, iv x3, iv (own_bi bt0), iv (own_bi bt1), iv (own_bi bt2), iv (own_bi bt3), iv (own_bi bt4), iv (own_bi bt5), rv b1, rv b8, .unset, .unset, .unset, .unset, .unset, .unset, .unset, .unset, .unset, .unset, .unset, .unset, .unset, .unset, .unset, .unset, .unset] [(.int (own_bi bt2))]) (fun t' k => XS.iload XK2.here hx rfl (hb hby at_184) rfl  k) ?_
                  cases bt2
                  · skip
                    refine own_go (mkF m 189 #[iv x0, jv x1, .second, iv x3, iv (own_bi bt0), iv (own_bi bt1), iv (own_bi false), iv (own_bi bt3), iv (own_bi bt4), iv (own_bi bt5), rv b1, rv b8, .unset, .unset, .unset, .unset, .unset, .unset, .unset, .unset, .unset, .unset, .unset, .unset, .unset, .unset, .unset, .unset, .unset] []) (fun t' k => XS.ifNo XK2.here hx rfl (hb hby at_186) rfl ((if0 _ _).trans (teq (by decide)).2) k) ?_
                    refine own_go (mkF m 191 #[iv x0, jv x1, .second, iv x3, iv (own_bi bt0), iv (own_bi bt1), iv (own_bi false), iv (own_bi bt3), iv (own_bi bt4), iv (own_bi bt5), rv b1, rv b8, .unset, .unset, .unset, .unset, .unset, .unset, .unset, .unset, .unset, .unset, .unset, .unset, .unset, .unset, .unset, .unset, .unset] [(.ref b8)]) (fun t' k => XS.aload XK2.here hx rfl (hb hby at_189) rfl rfl  k) ?_
                    refine own_go (mkF m 192 #[iv x0, jv x1, .second, iv x3, iv (own_bi bt0), iv (own_bi bt1), iv (own_bi false), iv (own_bi bt3), iv (own_bi bt4), iv (own_bi bt5), rv b1, rv b8, .unset, .unset, .unset, .unset, .unset, .unset, .unset, .unset, .unset, .unset, .unset, .unset, .unset, .unset, .unset, .unset, .unset] [(.int (2 : Int32)), (.ref b8)]) (fun t' k => XS.iconst XK2.here hx rfl (hb hby at_191) k) ?_
                    have E14 := HK2.2.2.1.1
                    refine XK2.callV hx hZ (y := (⟨"com/example/load_across_peers/loadacrosspeers/internal/pick/WeightTree", "withdraw", "(I)V"⟩ : MethodName)) (C := "com/example/load_across_peers/loadacrosspeers/internal/pick/WeightTree") hown (hw _ (List.mem_of_getElem? (i := 44) rfl)) (hw _ (List.mem_of_getElem? (i := 45) rfl)) (hw _ (List.mem_of_getElem? (i := 47) rfl)) (hw _ (List.mem_of_getElem? (i := 46) rfl)) (hw _ (List.mem_of_getElem? (i := 3) rfl)) (hw _ (List.mem_of_getElem? (i := 48) rfl)) (by decide) rfl E14 [(.int (2 : Int32))] [] (own_rmW2 l Z a0 hw [] TK2.heap h0.size b8 b1 bp bs bc _ _ _ _ _ _ _ HK2) 0 (by decide) (by decide) (Nat.le_of_eq rfl) (by decide) (by decide) (by rw [hml]; rfl) (lenOf own_pd5 rfl) rfl (hb hby at_192) ?_
                    rintro T14 _ X14 ⟨rfl, HT14⟩
                    replace HT14 : own_T Z T14.heap h0.size b8 b1 bp bs bc (own_cs bt0 bt1 false true true true) := by
                      have q : ([(.int (0 : Int32)), (.int (own_bi bt0)), (.int ((own_bi bt0) + (own_bi bt1))), (.int ((own_bi true) + (-1 : Int32))), (.int (((own_bi bt0) + (own_bi bt1) + (own_bi true) + (own_bi true)) + (-1 : Int32))), (.int (own_bi true)), (.int ((own_bi true) + (own_bi true)))] : List Value) = own_cs bt0 bt1 false true true true := by cases bt0 <;> cases bt1 <;> rfl
                      rw [← q]; exact HT14
                    show own_G p e below s _ _ _ T14 (mkF m 195 #[iv x0, jv x1, .second, iv x3, iv (own_bi bt0), iv (own_bi bt1), iv (own_bi false), iv (own_bi bt3), iv (own_bi bt4), iv (own_bi bt5), rv b1, rv b8, .unset, .unset, .unset, .unset, .unset, .unset, .unset, .unset, .unset, .unset, .unset, .unset, .unset, .unset, .unset, .unset, .unset] [])
                    exact K3 T14 (X14.more (by decide) (by decide)) (HT14)
                  · skip
                    refine own_go (mkF m 195 #[iv x0, jv x1, .second, iv x3, iv (own_bi bt0), iv (own_bi bt1), iv (own_bi true), iv (own_bi bt3), iv (own_bi bt4), iv (own_bi bt5), rv b1, rv b8, .unset, .unset, .unset, .unset, .unset, .unset, .unset, .unset, .unset, .unset, .unset, .unset, .unset, .unset, .unset, .unset, .unset] []) (fun t' k => XS.ifYes XK2.here hx rfl (pc0 := 186) (pc' := 195) rfl (hb hby at_186) rfl ((if0 _ _).trans (feq (by decide)).2) (by decide) (by decide) k) ?_
                    exact K3 TK2 (XK2.more (by decide) (by decide)) (HK2)
                refine own_go (mkF m 175 #[iv x0, jv x1, .second, iv x3, iv (own_bi bt0), iv (own_bi bt1), iv (own_bi bt2), iv (own_bi bt3), iv (own_bi bt4), iv (own_bi bt5), rv b1, rv b8, .unset, .unset, .unset, .unset, .unset, .unset, .unset, .unset, .unset, .unset, .unset, .unset, .unset, .unset, .unset, .unset, .unset] [(.int (own_bi bt1))]) (fun t' k => XS.iload XK1.here hx rfl (hb hby at_173) rfl  k) ?_
                cases bt1
                · skip
                  refine own_go (mkF m 178 #[iv x0, jv x1, .second, iv x3, iv (own_bi bt0), iv (own_bi false), iv (own_bi bt2), iv (own_bi bt3), iv (own_bi bt4), iv (own_bi bt5), rv b1, rv b8, .unset, .unset, .unset, .unset, .unset, .unset, .unset, .unset, .unset, .unset, .unset, .unset, .unset, .unset, .unset, .unset, .unset] []) (fun t' k => XS.ifNo XK1.here hx rfl (hb hby at_175) rfl ((if0 _ _).trans (teq (by decide)).2) k) ?_
                  refine own_go (mkF m 180 #[iv x0, jv x1, .second, iv x3, iv (own_bi bt0), iv (own_bi false), iv (own_bi bt2), iv (own_bi bt3), iv (own_bi bt4), iv (own_bi bt5), rv b1, rv b8, .unset, .unset, .unset, .unset, .unset, .unset, .unset, .unset, .unset, .unset, .unset, .unset, .unset, .unset, .unset, .unset, .unset] [(.ref b8)]) (fun t' k => XS.aload XK1.here hx rfl (hb hby at_178) rfl rfl  k) ?_
                  refine own_go (mkF m 181 #[iv x0, jv x1, .second, iv x3, iv (own_bi bt0), iv (own_bi false), iv (own_bi bt2), iv (own_bi bt3), iv (own_bi bt4), iv (own_bi bt5), rv b1, rv b8, .unset, .unset, .unset, .unset, .unset, .unset, .unset, .unset, .unset, .unset, .unset, .unset, .unset, .unset, .unset, .unset, .unset] [(.int (1 : Int32)), (.ref b8)]) (fun t' k => XS.iconst XK1.here hx rfl (hb hby at_180) k) ?_
                  have E15 := HK1.2.2.1.1
                  refine XK1.callV hx hZ (y := (⟨"com/example/load_across_peers/loadacrosspeers/internal/pick/WeightTree", "withdraw", "(I)V"⟩ : MethodName)) (C := "com/example/load_across_peers/loadacrosspeers/internal/pick/WeightTree") hown (hw _ (List.mem_of_getElem? (i := 44) rfl)) (hw _ (List.mem_of_getElem? (i := 45) rfl)) (hw _ (List.mem_of_getElem? (i := 47) rfl)) (hw _ (List.mem_of_getElem? (i := 46) rfl)) (hw _ (List.mem_of_getElem? (i := 3) rfl)) (hw _ (List.mem_of_getElem? (i := 48) rfl)) (by decide) rfl E15 [(.int (1 : Int32))] [] (own_rmW1 l Z a0 hw [] TK1.heap h0.size b8 b1 bp bs bc _ _ _ _ _ _ _ HK1) 0 (by decide) (by decide) (Nat.le_of_eq rfl) (by decide) (by decide) (by rw [hml]; rfl) (lenOf own_pd5 rfl) rfl (hb hby at_181) ?_
                  rintro T15 _ X15 ⟨rfl, HT15⟩
                  replace HT15 : own_T Z T15.heap h0.size b8 b1 bp bs bc (own_cs bt0 false true true true true) := by
                    have q : ([(.int (0 : Int32)), (.int (own_bi bt0)), (.int (((own_bi bt0) + (own_bi true)) + (-1 : Int32))), (.int (own_bi true)), (.int (((own_bi bt0) + (own_bi true) + (own_bi true) + (own_bi true)) + (-1 : Int32))), (.int (own_bi true)), (.int ((own_bi true) + (own_bi true)))] : List Value) = own_cs bt0 false true true true true := by cases bt0 <;> rfl
                    rw [← q]; exact HT15
                  show own_G p e below s _ _ _ T15 (mkF m 184 #[iv x0, jv x1, .second, iv x3, iv (own_bi bt0), iv (own_bi false), iv (own_bi bt2), iv (own_bi bt3), iv (own_bi bt4), iv (own_bi bt5), rv b1, rv b8, .unset, .unset, .unset, .unset, .unset, .unset, .unset, .unset, .unset, .unset, .unset, .unset, .unset, .unset, .unset, .unset, .unset] [])
                  exact K2 T15 (X15.more (by decide) (by decide)) (HT15)
                · skip
                  refine own_go (mkF m 184 #[iv x0, jv x1, .second, iv x3, iv (own_bi bt0), iv (own_bi true), iv (own_bi bt2), iv (own_bi bt3), iv (own_bi bt4), iv (own_bi bt5), rv b1, rv b8, .unset, .unset, .unset, .unset, .unset, .unset, .unset, .unset, .unset, .unset, .unset, .unset, .unset, .unset, .unset, .unset, .unset] []) (fun t' k => XS.ifYes XK1.here hx rfl (pc0 := 175) (pc' := 184) rfl (hb hby at_175) rfl ((if0 _ _).trans (feq (by decide)).2) (by decide) (by decide) k) ?_
                  exact K2 TK1 (XK1.more (by decide) (by decide)) (HK1)
              refine own_go (mkF m 164 #[iv x0, jv x1, .second, iv x3, iv (own_bi bt0), iv (own_bi bt1), iv (own_bi bt2), iv (own_bi bt3), iv (own_bi bt4), iv (own_bi bt5), rv b1, rv b8, .unset, .unset, .unset, .unset, .unset, .unset, .unset, .unset, .unset, .unset, .unset, .unset, .unset, .unset, .unset, .unset, .unset] [(.int (own_bi bt0))]) (fun t' k => XS.iload X9.here hx rfl (hb hby at_162) rfl  k) ?_
              cases bt0
              · skip
                refine own_go (mkF m 167 #[iv x0, jv x1, .second, iv x3, iv (own_bi false), iv (own_bi bt1), iv (own_bi bt2), iv (own_bi bt3), iv (own_bi bt4), iv (own_bi bt5), rv b1, rv b8, .unset, .unset, .unset, .unset, .unset, .unset, .unset, .unset, .unset, .unset, .unset, .unset, .unset, .unset, .unset, .unset, .unset] []) (fun t' k => XS.ifNo X9.here hx rfl (hb hby at_164) rfl ((if0 _ _).trans (teq (by decide)).2) k) ?_
                refine own_go (mkF m 169 #[iv x0, jv x1, .second, iv x3, iv (own_bi false), iv (own_bi bt1), iv (own_bi bt2), iv (own_bi bt3), iv (own_bi bt4), iv (own_bi bt5), rv b1, rv b8, .unset, .unset, .unset, .unset, .unset, .unset, .unset, .unset, .unset, .unset, .unset, .unset, .unset, .unset, .unset, .unset, .unset] [(.ref b8)]) (fun t' k => XS.aload X9.here hx rfl (hb hby at_167) rfl rfl  k) ?_
                refine own_go (mkF m 170 #[iv x0, jv x1, .second, iv x3, iv (own_bi false), iv (own_bi bt1), iv (own_bi bt2), iv (own_bi bt3), iv (own_bi bt4), iv (own_bi bt5), rv b1, rv b8, .unset, .unset, .unset, .unset, .unset, .unset, .unset, .unset, .unset, .unset, .unset, .unset, .unset, .unset, .unset, .unset, .unset] [(.int (0 : Int32)), (.ref b8)]) (fun t' k => XS.iconst X9.here hx rfl (hb hby at_169) k) ?_
                have E16 := HT9.2.2.1.1
                refine X9.callV hx hZ (y := (⟨"com/example/load_across_peers/loadacrosspeers/internal/pick/WeightTree", "withdraw", "(I)V"⟩ : MethodName)) (C := "com/example/load_across_peers/loadacrosspeers/internal/pick/WeightTree") hown (hw _ (List.mem_of_getElem? (i := 44) rfl)) (hw _ (List.mem_of_getElem? (i := 45) rfl)) (hw _ (List.mem_of_getElem? (i := 47) rfl)) (hw _ (List.mem_of_getElem? (i := 46) rfl)) (hw _ (List.mem_of_getElem? (i := 3) rfl)) (hw _ (List.mem_of_getElem? (i := 48) rfl)) (by decide) rfl E16 [(.int (0 : Int32))] [] (own_rmW0 l Z a0 hw [] T9.heap h0.size b8 b1 bp bs bc _ _ _ _ _ _ _ HT9) 0 (by decide) (by decide) (Nat.le_of_eq rfl) (by decide) (by decide) (by rw [hml]; rfl) (lenOf own_pd5 rfl) rfl (hb hby at_170) ?_
                rintro T16 _ X16 ⟨rfl, HT16⟩
                replace HT16 : own_T Z T16.heap h0.size b8 b1 bp bs bc (own_cs false true true true true true) := by
                  have q : ([(.int (0 : Int32)), (.int ((own_bi true) + (-1 : Int32))), (.int (((own_bi true) + (own_bi true)) + (-1 : Int32))), (.int (own_bi true)), (.int (((own_bi true) + (own_bi true) + (own_bi true) + (own_bi true)) + (-1 : Int32))), (.int (own_bi true)), (.int ((own_bi true) + (own_bi true)))] : List Value) = own_cs false true true true true true := by rfl
                  rw [← q]; exact HT16
                show own_G p e below s _ _ _ T16 (mkF m 173 #[iv x0, jv x1, .second, iv x3, iv (own_bi false), iv (own_bi bt1), iv (own_bi bt2), iv (own_bi bt3), iv (own_bi bt4), iv (own_bi bt5), rv b1, rv b8, .unset, .unset, .unset, .unset, .unset, .unset, .unset, .unset, .unset, .unset, .unset, .unset, .unset, .unset, .unset, .unset, .unset] [])
                exact K1 T16 (X16.more (by decide) (by decide)) (HT16)
              · skip
                refine own_go (mkF m 173 #[iv x0, jv x1, .second, iv x3, iv (own_bi true), iv (own_bi bt1), iv (own_bi bt2), iv (own_bi bt3), iv (own_bi bt4), iv (own_bi bt5), rv b1, rv b8, .unset, .unset, .unset, .unset, .unset, .unset, .unset, .unset, .unset, .unset, .unset, .unset, .unset, .unset, .unset, .unset, .unset] []) (fun t' k => XS.ifYes X9.here hx rfl (pc0 := 164) (pc' := 173) rfl (hb hby at_164) rfl ((if0 _ _).trans (feq (by decide)).2) (by decide) (by decide) k) ?_
                exact K1 T9 (X9.more (by decide) (by decide)) (HT9)
            refine own_go (mkF m 68 #[iv x0, jv x1, .second, iv x3, iv (own_bi bt0), iv (own_bi bt1), iv (own_bi bt2), iv (own_bi bt3), iv (own_bi bt4), .unset, .unset, .unset, .unset, .unset, .unset, .unset, .unset, .unset, .unset, .unset, .unset, .unset, .unset, .unset, .unset, .unset, .unset, .unset, .unset] [(.int x0)]) (fun t' k => XS.iloadN X0.here hx rfl (hb hby at_67) rfl  k) ?_
            refine own_go (mkF m 70 #[iv x0, jv x1, .second, iv x3, iv (own_bi bt0), iv (own_bi bt1), iv (own_bi bt2), iv (own_bi bt3), iv (own_bi bt4), .unset, .unset, .unset, .unset, .unset, .unset, .unset, .unset, .unset, .unset, .unset, .unset, .unset, .unset, .unset, .unset, .unset, .unset, .unset, .unset] [(.int (32 : Int32)), (.int x0)]) (fun t' k => XS.bipush X0.here hx rfl (hb hby at_68) k) ?_
            refine own_go (mkF m 71 #[iv x0, jv x1, .second, iv x3, iv (own_bi bt0), iv (own_bi bt1), iv (own_bi bt2), iv (own_bi bt3), iv (own_bi bt4), .unset, .unset, .unset, .unset, .unset, .unset, .unset, .unset, .unset, .unset, .unset, .unset, .unset, .unset, .unset, .unset, .unset, .unset, .unset, .unset] [(.int (x0 &&& (32 : Int32)))]) (fun t' k => XS.iand X0.here hx rfl (hb hby at_70) rfl k) ?_
            by_cases hc71 : (x0 &&& (32 : Int32)) = (0 : Int32)
            · skip
              refine own_go (mkF m 74 #[iv x0, jv x1, .second, iv x3, iv (own_bi bt0), iv (own_bi bt1), iv (own_bi bt2), iv (own_bi bt3), iv (own_bi bt4), .unset, .unset, .unset, .unset, .unset, .unset, .unset, .unset, .unset, .unset, .unset, .unset, .unset, .unset, .unset, .unset, .unset, .unset, .unset, .unset] []) (fun t' k => XS.ifNo X0.here hx rfl (hb hby at_71) rfl ((if0 _ _).trans (teq hc71).2) k) ?_
              refine own_go (mkF m 75 #[iv x0, jv x1, .second, iv x3, iv (own_bi bt0), iv (own_bi bt1), iv (own_bi bt2), iv (own_bi bt3), iv (own_bi bt4), .unset, .unset, .unset, .unset, .unset, .unset, .unset, .unset, .unset, .unset, .unset, .unset, .unset, .unset, .unset, .unset, .unset, .unset, .unset, .unset] [(.int (1 : Int32))]) (fun t' k => XS.iconst X0.here hx rfl (hb hby at_74) k) ?_
              refine own_go (mkF m 79 #[iv x0, jv x1, .second, iv x3, iv (own_bi bt0), iv (own_bi bt1), iv (own_bi bt2), iv (own_bi bt3), iv (own_bi bt4), .unset, .unset, .unset, .unset, .unset, .unset, .unset, .unset, .unset, .unset, .unset, .unset, .unset, .unset, .unset, .unset, .unset, .unset, .unset, .unset] [(.int (1 : Int32))]) (fun t' k => XS.goto X0.here hx rfl (pc0 := 75) (pc' := 79) rfl (hb hby at_75) (by decide) (by decide) k) ?_
              exact Jf ((1 : Int32)) ⟨true, rfl⟩
            · skip
              refine own_go (mkF m 78 #[iv x0, jv x1, .second, iv x3, iv (own_bi bt0), iv (own_bi bt1), iv (own_bi bt2), iv (own_bi bt3), iv (own_bi bt4), .unset, .unset, .unset, .unset, .unset, .unset, .unset, .unset, .unset, .unset, .unset, .unset, .unset, .unset, .unset, .unset, .unset, .unset, .unset, .unset] []) (fun t' k => XS.ifYes X0.here hx rfl (pc0 := 71) (pc' := 78) rfl (hb hby at_71) rfl ((if0 _ _).trans (feq hc71).2) (by decide) (by decide) k) ?_
              refine own_go (mkF m 79 #[iv x0, jv x1, .second, iv x3, iv (own_bi bt0), iv (own_bi bt1), iv (own_bi bt2), iv (own_bi bt3), iv (own_bi bt4), .unset, .unset, .unset, .unset, .unset, .unset, .unset, .unset, .unset, .unset, .unset, .unset, .unset, .unset, .unset, .unset, .unset, .unset, .unset, .unset] [(.int (0 : Int32))]) (fun t' k => XS.iconst X0.here hx rfl (hb hby at_78) k) ?_
              exact Jf ((0 : Int32)) ⟨false, rfl⟩
          refine own_go (mkF m 54 #[iv x0, jv x1, .second, iv x3, iv (own_bi bt0), iv (own_bi bt1), iv (own_bi bt2), iv (own_bi bt3), .unset, .unset, .unset, .unset, .unset, .unset, .unset, .unset, .unset, .unset, .unset, .unset, .unset, .unset, .unset, .unset, .unset, .unset, .unset, .unset, .unset] [(.int x0)]) (fun t' k => XS.iloadN X0.here hx rfl (hb hby at_53) rfl  k) ?_
          refine own_go (mkF m 56 #[iv x0, jv x1, .second, iv x3, iv (own_bi bt0), iv (own_bi bt1), iv (own_bi bt2), iv (own_bi bt3), .unset, .unset, .unset, .unset, .unset, .unset, .unset, .unset, .unset, .unset, .unset, .unset, .unset, .unset, .unset, .unset, .unset, .unset, .unset, .unset, .unset] [(.int (16 : Int32)), (.int x0)]) (fun t' k => XS.bipush X0.here hx rfl (hb hby at_54) k) ?_
          refine own_go (mkF m 57 #[iv x0, jv x1, .second, iv x3, iv (own_bi bt0), iv (own_bi bt1), iv (own_bi bt2), iv (own_bi bt3), .unset, .unset, .unset, .unset, .unset, .unset, .unset, .unset, .unset, .unset, .unset, .unset, .unset, .unset, .unset, .unset, .unset, .unset, .unset, .unset, .unset] [(.int (x0 &&& (16 : Int32)))]) (fun t' k => XS.iand X0.here hx rfl (hb hby at_56) rfl k) ?_
          by_cases hc57 : (x0 &&& (16 : Int32)) = (0 : Int32)
          · skip
            refine own_go (mkF m 60 #[iv x0, jv x1, .second, iv x3, iv (own_bi bt0), iv (own_bi bt1), iv (own_bi bt2), iv (own_bi bt3), .unset, .unset, .unset, .unset, .unset, .unset, .unset, .unset, .unset, .unset, .unset, .unset, .unset, .unset, .unset, .unset, .unset, .unset, .unset, .unset, .unset] []) (fun t' k => XS.ifNo X0.here hx rfl (hb hby at_57) rfl ((if0 _ _).trans (teq hc57).2) k) ?_
            refine own_go (mkF m 61 #[iv x0, jv x1, .second, iv x3, iv (own_bi bt0), iv (own_bi bt1), iv (own_bi bt2), iv (own_bi bt3), .unset, .unset, .unset, .unset, .unset, .unset, .unset, .unset, .unset, .unset, .unset, .unset, .unset, .unset, .unset, .unset, .unset, .unset, .unset, .unset, .unset] [(.int (1 : Int32))]) (fun t' k => XS.iconst X0.here hx rfl (hb hby at_60) k) ?_
            refine own_go (mkF m 65 #[iv x0, jv x1, .second, iv x3, iv (own_bi bt0), iv (own_bi bt1), iv (own_bi bt2), iv (own_bi bt3), .unset, .unset, .unset, .unset, .unset, .unset, .unset, .unset, .unset, .unset, .unset, .unset, .unset, .unset, .unset, .unset, .unset, .unset, .unset, .unset, .unset] [(.int (1 : Int32))]) (fun t' k => XS.goto X0.here hx rfl (pc0 := 61) (pc' := 65) rfl (hb hby at_61) (by decide) (by decide) k) ?_
            exact Je ((1 : Int32)) ⟨true, rfl⟩
          · skip
            refine own_go (mkF m 64 #[iv x0, jv x1, .second, iv x3, iv (own_bi bt0), iv (own_bi bt1), iv (own_bi bt2), iv (own_bi bt3), .unset, .unset, .unset, .unset, .unset, .unset, .unset, .unset, .unset, .unset, .unset, .unset, .unset, .unset, .unset, .unset, .unset, .unset, .unset, .unset, .unset] []) (fun t' k => XS.ifYes X0.here hx rfl (pc0 := 57) (pc' := 64) rfl (hb hby at_57) rfl ((if0 _ _).trans (feq hc57).2) (by decide) (by decide) k) ?_
            refine own_go (mkF m 65 #[iv x0, jv x1, .second, iv x3, iv (own_bi bt0), iv (own_bi bt1), iv (own_bi bt2), iv (own_bi bt3), .unset, .unset, .unset, .unset, .unset, .unset, .unset, .unset, .unset, .unset, .unset, .unset, .unset, .unset, .unset, .unset, .unset, .unset, .unset, .unset, .unset] [(.int (0 : Int32))]) (fun t' k => XS.iconst X0.here hx rfl (hb hby at_64) k) ?_
            exact Je ((0 : Int32)) ⟨false, rfl⟩
        refine own_go (mkF m 40 #[iv x0, jv x1, .second, iv x3, iv (own_bi bt0), iv (own_bi bt1), iv (own_bi bt2), .unset, .unset, .unset, .unset, .unset, .unset, .unset, .unset, .unset, .unset, .unset, .unset, .unset, .unset, .unset, .unset, .unset, .unset, .unset, .unset, .unset, .unset] [(.int x0)]) (fun t' k => XS.iloadN X0.here hx rfl (hb hby at_39) rfl  k) ?_
        refine own_go (mkF m 42 #[iv x0, jv x1, .second, iv x3, iv (own_bi bt0), iv (own_bi bt1), iv (own_bi bt2), .unset, .unset, .unset, .unset, .unset, .unset, .unset, .unset, .unset, .unset, .unset, .unset, .unset, .unset, .unset, .unset, .unset, .unset, .unset, .unset, .unset, .unset] [(.int (8 : Int32)), (.int x0)]) (fun t' k => XS.bipush X0.here hx rfl (hb hby at_40) k) ?_
        refine own_go (mkF m 43 #[iv x0, jv x1, .second, iv x3, iv (own_bi bt0), iv (own_bi bt1), iv (own_bi bt2), .unset, .unset, .unset, .unset, .unset, .unset, .unset, .unset, .unset, .unset, .unset, .unset, .unset, .unset, .unset, .unset, .unset, .unset, .unset, .unset, .unset, .unset] [(.int (x0 &&& (8 : Int32)))]) (fun t' k => XS.iand X0.here hx rfl (hb hby at_42) rfl k) ?_
        by_cases hc43 : (x0 &&& (8 : Int32)) = (0 : Int32)
        · skip
          refine own_go (mkF m 46 #[iv x0, jv x1, .second, iv x3, iv (own_bi bt0), iv (own_bi bt1), iv (own_bi bt2), .unset, .unset, .unset, .unset, .unset, .unset, .unset, .unset, .unset, .unset, .unset, .unset, .unset, .unset, .unset, .unset, .unset, .unset, .unset, .unset, .unset, .unset] []) (fun t' k => XS.ifNo X0.here hx rfl (hb hby at_43) rfl ((if0 _ _).trans (teq hc43).2) k) ?_
          refine own_go (mkF m 47 #[iv x0, jv x1, .second, iv x3, iv (own_bi bt0), iv (own_bi bt1), iv (own_bi bt2), .unset, .unset, .unset, .unset, .unset, .unset, .unset, .unset, .unset, .unset, .unset, .unset, .unset, .unset, .unset, .unset, .unset, .unset, .unset, .unset, .unset, .unset] [(.int (1 : Int32))]) (fun t' k => XS.iconst X0.here hx rfl (hb hby at_46) k) ?_
          refine own_go (mkF m 51 #[iv x0, jv x1, .second, iv x3, iv (own_bi bt0), iv (own_bi bt1), iv (own_bi bt2), .unset, .unset, .unset, .unset, .unset, .unset, .unset, .unset, .unset, .unset, .unset, .unset, .unset, .unset, .unset, .unset, .unset, .unset, .unset, .unset, .unset, .unset] [(.int (1 : Int32))]) (fun t' k => XS.goto X0.here hx rfl (pc0 := 47) (pc' := 51) rfl (hb hby at_47) (by decide) (by decide) k) ?_
          exact Jd ((1 : Int32)) ⟨true, rfl⟩
        · skip
          refine own_go (mkF m 50 #[iv x0, jv x1, .second, iv x3, iv (own_bi bt0), iv (own_bi bt1), iv (own_bi bt2), .unset, .unset, .unset, .unset, .unset, .unset, .unset, .unset, .unset, .unset, .unset, .unset, .unset, .unset, .unset, .unset, .unset, .unset, .unset, .unset, .unset, .unset] []) (fun t' k => XS.ifYes X0.here hx rfl (pc0 := 43) (pc' := 50) rfl (hb hby at_43) rfl ((if0 _ _).trans (feq hc43).2) (by decide) (by decide) k) ?_
          refine own_go (mkF m 51 #[iv x0, jv x1, .second, iv x3, iv (own_bi bt0), iv (own_bi bt1), iv (own_bi bt2), .unset, .unset, .unset, .unset, .unset, .unset, .unset, .unset, .unset, .unset, .unset, .unset, .unset, .unset, .unset, .unset, .unset, .unset, .unset, .unset, .unset, .unset] [(.int (0 : Int32))]) (fun t' k => XS.iconst X0.here hx rfl (hb hby at_50) k) ?_
          exact Jd ((0 : Int32)) ⟨false, rfl⟩
      refine own_go (mkF m 27 #[iv x0, jv x1, .second, iv x3, iv (own_bi bt0), iv (own_bi bt1), .unset, .unset, .unset, .unset, .unset, .unset, .unset, .unset, .unset, .unset, .unset, .unset, .unset, .unset, .unset, .unset, .unset, .unset, .unset, .unset, .unset, .unset, .unset] [(.int x0)]) (fun t' k => XS.iloadN X0.here hx rfl (hb hby at_26) rfl  k) ?_
      refine own_go (mkF m 28 #[iv x0, jv x1, .second, iv x3, iv (own_bi bt0), iv (own_bi bt1), .unset, .unset, .unset, .unset, .unset, .unset, .unset, .unset, .unset, .unset, .unset, .unset, .unset, .unset, .unset, .unset, .unset, .unset, .unset, .unset, .unset, .unset, .unset] [(.int (4 : Int32)), (.int x0)]) (fun t' k => XS.iconst X0.here hx rfl (hb hby at_27) k) ?_
      refine own_go (mkF m 29 #[iv x0, jv x1, .second, iv x3, iv (own_bi bt0), iv (own_bi bt1), .unset, .unset, .unset, .unset, .unset, .unset, .unset, .unset, .unset, .unset, .unset, .unset, .unset, .unset, .unset, .unset, .unset, .unset, .unset, .unset, .unset, .unset, .unset] [(.int (x0 &&& (4 : Int32)))]) (fun t' k => XS.iand X0.here hx rfl (hb hby at_28) rfl k) ?_
      by_cases hc29 : (x0 &&& (4 : Int32)) = (0 : Int32)
      · skip
        refine own_go (mkF m 32 #[iv x0, jv x1, .second, iv x3, iv (own_bi bt0), iv (own_bi bt1), .unset, .unset, .unset, .unset, .unset, .unset, .unset, .unset, .unset, .unset, .unset, .unset, .unset, .unset, .unset, .unset, .unset, .unset, .unset, .unset, .unset, .unset, .unset] []) (fun t' k => XS.ifNo X0.here hx rfl (hb hby at_29) rfl ((if0 _ _).trans (teq hc29).2) k) ?_
        refine own_go (mkF m 33 #[iv x0, jv x1, .second, iv x3, iv (own_bi bt0), iv (own_bi bt1), .unset, .unset, .unset, .unset, .unset, .unset, .unset, .unset, .unset, .unset, .unset, .unset, .unset, .unset, .unset, .unset, .unset, .unset, .unset, .unset, .unset, .unset, .unset] [(.int (1 : Int32))]) (fun t' k => XS.iconst X0.here hx rfl (hb hby at_32) k) ?_
        refine own_go (mkF m 37 #[iv x0, jv x1, .second, iv x3, iv (own_bi bt0), iv (own_bi bt1), .unset, .unset, .unset, .unset, .unset, .unset, .unset, .unset, .unset, .unset, .unset, .unset, .unset, .unset, .unset, .unset, .unset, .unset, .unset, .unset, .unset, .unset, .unset] [(.int (1 : Int32))]) (fun t' k => XS.goto X0.here hx rfl (pc0 := 33) (pc' := 37) rfl (hb hby at_33) (by decide) (by decide) k) ?_
        exact Jc ((1 : Int32)) ⟨true, rfl⟩
      · skip
        refine own_go (mkF m 36 #[iv x0, jv x1, .second, iv x3, iv (own_bi bt0), iv (own_bi bt1), .unset, .unset, .unset, .unset, .unset, .unset, .unset, .unset, .unset, .unset, .unset, .unset, .unset, .unset, .unset, .unset, .unset, .unset, .unset, .unset, .unset, .unset, .unset] []) (fun t' k => XS.ifYes X0.here hx rfl (pc0 := 29) (pc' := 36) rfl (hb hby at_29) rfl ((if0 _ _).trans (feq hc29).2) (by decide) (by decide) k) ?_
        refine own_go (mkF m 37 #[iv x0, jv x1, .second, iv x3, iv (own_bi bt0), iv (own_bi bt1), .unset, .unset, .unset, .unset, .unset, .unset, .unset, .unset, .unset, .unset, .unset, .unset, .unset, .unset, .unset, .unset, .unset, .unset, .unset, .unset, .unset, .unset, .unset] [(.int (0 : Int32))]) (fun t' k => XS.iconst X0.here hx rfl (hb hby at_36) k) ?_
        exact Jc ((0 : Int32)) ⟨false, rfl⟩
    refine own_go (mkF m 14 #[iv x0, jv x1, .second, iv x3, iv (own_bi bt0), .unset, .unset, .unset, .unset, .unset, .unset, .unset, .unset, .unset, .unset, .unset, .unset, .unset, .unset, .unset, .unset, .unset, .unset, .unset, .unset, .unset, .unset, .unset, .unset] [(.int x0)]) (fun t' k => XS.iloadN X0.here hx rfl (hb hby at_13) rfl  k) ?_
    refine own_go (mkF m 15 #[iv x0, jv x1, .second, iv x3, iv (own_bi bt0), .unset, .unset, .unset, .unset, .unset, .unset, .unset, .unset, .unset, .unset, .unset, .unset, .unset, .unset, .unset, .unset, .unset, .unset, .unset, .unset, .unset, .unset, .unset, .unset] [(.int (2 : Int32)), (.int x0)]) (fun t' k => XS.iconst X0.here hx rfl (hb hby at_14) k) ?_
    refine own_go (mkF m 16 #[iv x0, jv x1, .second, iv x3, iv (own_bi bt0), .unset, .unset, .unset, .unset, .unset, .unset, .unset, .unset, .unset, .unset, .unset, .unset, .unset, .unset, .unset, .unset, .unset, .unset, .unset, .unset, .unset, .unset, .unset, .unset] [(.int (x0 &&& (2 : Int32)))]) (fun t' k => XS.iand X0.here hx rfl (hb hby at_15) rfl k) ?_
    by_cases hc16 : (x0 &&& (2 : Int32)) = (0 : Int32)
    · skip
      refine own_go (mkF m 19 #[iv x0, jv x1, .second, iv x3, iv (own_bi bt0), .unset, .unset, .unset, .unset, .unset, .unset, .unset, .unset, .unset, .unset, .unset, .unset, .unset, .unset, .unset, .unset, .unset, .unset, .unset, .unset, .unset, .unset, .unset, .unset] []) (fun t' k => XS.ifNo X0.here hx rfl (hb hby at_16) rfl ((if0 _ _).trans (teq hc16).2) k) ?_
      refine own_go (mkF m 20 #[iv x0, jv x1, .second, iv x3, iv (own_bi bt0), .unset, .unset, .unset, .unset, .unset, .unset, .unset, .unset, .unset, .unset, .unset, .unset, .unset, .unset, .unset, .unset, .unset, .unset, .unset, .unset, .unset, .unset, .unset, .unset] [(.int (1 : Int32))]) (fun t' k => XS.iconst X0.here hx rfl (hb hby at_19) k) ?_
      refine own_go (mkF m 24 #[iv x0, jv x1, .second, iv x3, iv (own_bi bt0), .unset, .unset, .unset, .unset, .unset, .unset, .unset, .unset, .unset, .unset, .unset, .unset, .unset, .unset, .unset, .unset, .unset, .unset, .unset, .unset, .unset, .unset, .unset, .unset] [(.int (1 : Int32))]) (fun t' k => XS.goto X0.here hx rfl (pc0 := 20) (pc' := 24) rfl (hb hby at_20) (by decide) (by decide) k) ?_
      exact Jb ((1 : Int32)) ⟨true, rfl⟩
    · skip
      refine own_go (mkF m 23 #[iv x0, jv x1, .second, iv x3, iv (own_bi bt0), .unset, .unset, .unset, .unset, .unset, .unset, .unset, .unset, .unset, .unset, .unset, .unset, .unset, .unset, .unset, .unset, .unset, .unset, .unset, .unset, .unset, .unset, .unset, .unset] []) (fun t' k => XS.ifYes X0.here hx rfl (pc0 := 16) (pc' := 23) rfl (hb hby at_16) rfl ((if0 _ _).trans (feq hc16).2) (by decide) (by decide) k) ?_
      refine own_go (mkF m 24 #[iv x0, jv x1, .second, iv x3, iv (own_bi bt0), .unset, .unset, .unset, .unset, .unset, .unset, .unset, .unset, .unset, .unset, .unset, .unset, .unset, .unset, .unset, .unset, .unset, .unset, .unset, .unset, .unset, .unset, .unset, .unset] [(.int (0 : Int32))]) (fun t' k => XS.iconst X0.here hx rfl (hb hby at_23) k) ?_
      exact Jb ((0 : Int32)) ⟨false, rfl⟩
  refine own_go (mkF m 1 #[iv x0, jv x1, .second, iv x3, .unset, .unset, .unset, .unset, .unset, .unset, .unset, .unset, .unset, .unset, .unset, .unset, .unset, .unset, .unset, .unset, .unset, .unset, .unset, .unset, .unset, .unset, .unset, .unset, .unset] [(.int x0)]) (fun t' k => XS.iloadN X0.here hx rfl (hb hby at_0) rfl  k) ?_
  refine own_go (mkF m 2 #[iv x0, jv x1, .second, iv x3, .unset, .unset, .unset, .unset, .unset, .unset, .unset, .unset, .unset, .unset, .unset, .unset, .unset, .unset, .unset, .unset, .unset, .unset, .unset, .unset, .unset, .unset, .unset, .unset, .unset] [(.int (1 : Int32)), (.int x0)]) (fun t' k => XS.iconst X0.here hx rfl (hb hby at_1) k) ?_
  refine own_go (mkF m 3 #[iv x0, jv x1, .second, iv x3, .unset, .unset, .unset, .unset, .unset, .unset, .unset, .unset, .unset, .unset, .unset, .unset, .unset, .unset, .unset, .unset, .unset, .unset, .unset, .unset, .unset, .unset, .unset, .unset, .unset] [(.int (x0 &&& (1 : Int32)))]) (fun t' k => XS.iand X0.here hx rfl (hb hby at_2) rfl k) ?_
  by_cases hc3 : (x0 &&& (1 : Int32)) = (0 : Int32)
  · skip
    refine own_go (mkF m 6 #[iv x0, jv x1, .second, iv x3, .unset, .unset, .unset, .unset, .unset, .unset, .unset, .unset, .unset, .unset, .unset, .unset, .unset, .unset, .unset, .unset, .unset, .unset, .unset, .unset, .unset, .unset, .unset, .unset, .unset] []) (fun t' k => XS.ifNo X0.here hx rfl (hb hby at_3) rfl ((if0 _ _).trans (teq hc3).2) k) ?_
    refine own_go (mkF m 7 #[iv x0, jv x1, .second, iv x3, .unset, .unset, .unset, .unset, .unset, .unset, .unset, .unset, .unset, .unset, .unset, .unset, .unset, .unset, .unset, .unset, .unset, .unset, .unset, .unset, .unset, .unset, .unset, .unset, .unset] [(.int (1 : Int32))]) (fun t' k => XS.iconst X0.here hx rfl (hb hby at_6) k) ?_
    refine own_go (mkF m 11 #[iv x0, jv x1, .second, iv x3, .unset, .unset, .unset, .unset, .unset, .unset, .unset, .unset, .unset, .unset, .unset, .unset, .unset, .unset, .unset, .unset, .unset, .unset, .unset, .unset, .unset, .unset, .unset, .unset, .unset] [(.int (1 : Int32))]) (fun t' k => XS.goto X0.here hx rfl (pc0 := 7) (pc' := 11) rfl (hb hby at_7) (by decide) (by decide) k) ?_
    exact Ja ((1 : Int32)) ⟨true, rfl⟩
  · skip
    refine own_go (mkF m 10 #[iv x0, jv x1, .second, iv x3, .unset, .unset, .unset, .unset, .unset, .unset, .unset, .unset, .unset, .unset, .unset, .unset, .unset, .unset, .unset, .unset, .unset, .unset, .unset, .unset, .unset, .unset, .unset, .unset, .unset] []) (fun t' k => XS.ifYes X0.here hx rfl (pc0 := 3) (pc' := 10) rfl (hb hby at_3) rfl ((if0 _ _).trans (feq hc3).2) (by decide) (by decide) k) ?_
    refine own_go (mkF m 11 #[iv x0, jv x1, .second, iv x3, .unset, .unset, .unset, .unset, .unset, .unset, .unset, .unset, .unset, .unset, .unset, .unset, .unset, .unset, .unset, .unset, .unset, .unset, .unset, .unset, .unset, .unset, .unset, .unset, .unset] [(.int (0 : Int32))]) (fun t' k => XS.iconst X0.here hx rfl (hb hby at_10) k) ?_
    exact Ja ((0 : Int32)) ⟨false, rfl⟩

set_option maxRecDepth 65536 in
set_option maxHeartbeats 40000000 in
theorem comes_1 {Post : Tables → Env → Array Value → State → Outcome → State → Prop} (hpost : ∀ tb e args s v u, (limb_1_1.after args s (.returned v) u = true ∧ limb_1_2.after args s (.returned v) u = true ∧ True) → FrameEnd s (.returned v) u (Jvm.fieldLocs frame_1_writes args s ++ Jvm.arrayLocs frame_1_arrays args s ++ Jvm.staticLocs frame_1_statics s) 24 192 → Post tb e args s (.returned v) u) :
    ArmFor flags0 classFile x code maxLocals ret World_1 tables_1 room_1 Calls_1 rest_1 Pre_1 Post := by
  intro l hfl _ _ p e ha hc hk s m args below hf hA hF happ hP
  obtain ⟨hcalls, hrest, hpre⟩ := hP
  obtain ⟨-, -, -, hnamed, -, -, -, hat⟩ := (Spec.applies_iff hf).mp happ
  obtain ⟨hg, hn⟩ := and_e (Cond.before_iff.mp (show (Jvm.Cond.and given_1 narrow_1).before args s = true from hpre))
  obtain ⟨g1, g2⟩ := and_e hg
  obtain ⟨g3, g4⟩ := and_e g2
  obtain ⟨g5, g6⟩ := and_e g4
  obtain ⟨w0, w1, w2, rfl⟩ : ∃ w0 w1 w2 : Value, args = #[w0, w1, w2] := by
    have hs : args.size = 3 := by simpa [Cond.value, given_1] using g1
    obtain ⟨L⟩ := args
    match L, hs with
    | [w0, w1, w2], _ => exact ⟨w0, w1, w2, rfl⟩
  have hw := fun d (hd : d ∈ tables_1) => atoms_spec (ws := Jvm.Cond.code x code maxLocals ret :: tables_1) hat d (List.mem_cons_of_mem _ hd)
  obtain ⟨i0, ei0⟩ := is_v g3
  obtain rfl : w0 = (.int i0) := Option.some.inj ei0
  obtain ⟨i1, ei1⟩ := isL_v g5
  obtain rfl : w1 = (.long i1) := Option.some.inj ei1
  obtain ⟨i2, ei2⟩ := is_v g6
  obtain rfl : w2 = (.int i2) := Option.some.inj ei2
  obtain ⟨n, o, h1, h2, h3, _, L, rfl, ⟨N, rfl⟩, hq⟩ := own_rm0 l s _ hw tables_1 s.heap i0 i1 i2  p e ha hc hk s m _ below hf ((Spec.applies_iff_loose hf).mp happ).1 ⟨rfl, State.Warmed39.refl s, rfl⟩ trivial
  refine ⟨n, _, h1, h2, h3, hpost _ _ _ _ _ _ ⟨Cond.after_iff.mpr rfl, Cond.after_iff.mpr (eq_i res_at (Term.int_eval (1)) rfl), trivial⟩ ⟨hq.1, hq.2.1, (hq.2.2.sift fun y hy => Or.inr (N y hy)).mono (by decide) (by decide)⟩⟩
theorem main_1_1 : Claimed_1_1 := comes_1 fun _ _ _ _ _ _ h hF => ⟨h.1, hF⟩
theorem main_1_2 : Claimed_1_2 := comes_1 fun _ _ _ _ _ _ h hF => ⟨h.2.1, hF⟩
end Jvm.Pilot.@@N@@
namespace Jvm.Pilot.@@N@@
open Jvm Jvm.ClassFile Sem Op Lib Jvm.Free Jvm.Stand Jvm.Pilot.@@N@@.Jvm.D
/-! MADE BY PROGRAM (witnessworld.py) out of the Statement's table words and the real class files: 19 classes; the members and pool entries that the words name. The judged class is class 1, her method 1. -/
namespace start1
open Jvm.ClassFile
def u (s : String) : CpInfo := .utf8 (stringToUtf16 s)
/-- a pool by its gaps: so many unusable entries, then the entry; so many at the end -/
def gap : Nat → List CpInfo → List CpInfo
  | 0, r => r
  | n + 1, r => .unusable :: gap n r
def poolList (es : List (Nat × CpInfo)) (last : Nat) : List CpInfo := es.foldr (fun e r => gap e.1 (e.2 :: r)) (gap last [])
def pool (es : List (Nat × CpInfo)) (last : Nat) : Array CpInfo := ⟨poolList es last⟩
def fileOf (pool : Array CpInfo) (this : Nat) (attrs : Array Attribute := #[]) (ms : Array MethodInfo := #[]) (fl : Nat := 33) (sup : Nat := 0) (ifs : Array Nat := #[]) (fds : Array FieldInfo := #[]) : ClassFile where
  minorVersion := 0
  majorVersion := 65
  constantPool := pool
  accessFlags := fl
  thisClass := this
  superClass := sup
  interfaces := ifs
  fields := fds
  methods := ms
  attributes := attrs
def plain (name : String) (sup : Option ClassId) : Class where
  name := name
  kind := .ordinary
  loader := none
  accessFlags := 33
  super := sup
  interfaces := #[]
  cf := none
  fields := #[]
  methods := #[]
  instanceTypes := #[]
  staticTypes := #[]
  resolved := #[]
  callSites := []
  init := .initialized
  statics := none
  mirror := none

def pool0 : Array CpInfo := pool [(5, u "<init>"), (0, u "()V"), (1, .class_ 10), (1, u "java/lang/Object")] 113

def k0c0 : Code := { maxStack := 0, maxLocals := 1, code := object_method_1_code, exceptionTable := #[], attributes := #[] }
def k0m0 : Method := { name := "<init>", desc := "()V", sig := { parameters := [], returnType := none }, accessFlags := 1, code := some k0c0 }
/-- java/lang/Object -/
def k0 : Class := { plain "java/lang/Object" none with
  accessFlags := 33
  interfaces := #[]
  cf := some (fileOf pool0 8 #[] #[{ accessFlags := 1, nameIndex := 5, descriptorIndex := 6, attributes := #[] }] 33 0 #[] #[])
  fields := #[]
  methods := #[k0m0]
  instanceTypes := #[]
  staticTypes := #[]
  resolved := Array.replicate 124 none
  statics := none }

def pool1 : Array CpInfo := pool [(2, .class_ 4), (1, u "java/lang/Object"), (0, u "<init>"), (0, u "()V"), (0, .class_ 8), (0, u "com/example/load_across_peers/loadacrosspeers/internal/pick/WeightTree"), (0, .long 2147483648), (1, .methodref 7 12), (0, .nameAndType 5 13), (0, u "([JJ)V"), (0, .methodref 7 15), (0, .nameAndType 16 17), (0, u "withdraw"), (0, u "(I)V"), (0, .long 9223372036854775807), (1, .methodref 7 21), (0, .nameAndType 22 23), (0, u "takingPartAt"), (0, u "(J)I"), (0, .class_ 25), (0, u "com/example/load_across_peers/loadacrosspeers/internal/pick/WeightTreeTakingPartAtPinLaw"), (2, u "law"), (0, u "(IJI)Z")] 5

def k1m0 : Method := { name := "<init>", desc := "()V", sig := { parameters := [], returnType := none }, accessFlags := 1, code := none }
def k1c1 : Code := { maxStack := 5, maxLocals := 29, code := code, exceptionTable := #[], attributes := #[] }
def k1m1 : Method := { name := "law", desc := "(IJI)Z", sig := { parameters := [.int, .long, .int], returnType := some .boolean }, accessFlags := 9, code := some k1c1 }
/-- com/example/load_across_peers/loadacrosspeers/internal/pick/WeightTreeTakingPartAtPinLaw -/
def k1 : Class := { plain "com/example/load_across_peers/loadacrosspeers/internal/pick/WeightTreeTakingPartAtPinLaw" (some 0) with
  accessFlags := 49
  interfaces := #[]
  cf := some (fileOf pool1 24 #[] #[{ accessFlags := 1, nameIndex := 5, descriptorIndex := 6, attributes := #[] }, { accessFlags := 9, nameIndex := 28, descriptorIndex := 29, attributes := #[] }] 49 2 #[] #[])
  fields := #[]
  methods := #[k1m0, k1m1]
  instanceTypes := #[]
  staticTypes := #[]
  resolved := Array.replicate 35 none
  statics := none }

def pool2 : Array CpInfo := pool [(1, .class_ 2), (0, u "com/example/load_across_peers/loadacrosspeers/internal/pick/Participation$Field"), (0, .class_ 4), (0, u "java/lang/Object"), (13, .class_ 19), (0, u "com/example/load_across_peers/loadacrosspeers/internal/pick/Participation")] 2

/-- com/example/load_across_peers/loadacrosspeers/internal/pick/Participation$Field -/
def k2 : Class := { plain "com/example/load_across_peers/loadacrosspeers/internal/pick/Participation$Field" (some 0) with
  accessFlags := 1536
  interfaces := #[]
  cf := some (fileOf pool2 1 #[.nestHost 18] #[] 1536 3 #[] #[])
  fields := #[]
  methods := #[]
  instanceTypes := #[]
  staticTypes := #[]
  resolved := Array.replicate 22 none
  statics := none }

def pool3 : Array CpInfo := pool [(1, .class_ 2), (0, u "com/example/load_across_peers/loadacrosspeers/internal/pick/WeightTree"), (4, u "<init>"), (0, u "([JJ)V"), (0, .methodref 10 11), (0, .class_ 12), (0, .nameAndType 7 13), (0, u "java/lang/Object"), (0, u "()V"), (0, .fieldref 1 15), (0, .nameAndType 16 17), (0, u "climbsBetweenRebases"), (0, u "J"), (0, .fieldref 1 19), (0, .nameAndType 20 21), (0, u "weights"), (0, u "[J"), (0, .fieldref 1 23), (0, .nameAndType 24 25), (0, u "present"), (0, u "[Z"), (0, .fieldref 1 27), (0, .nameAndType 28 21), (0, u "sums"), (0, .fieldref 1 30), (0, .nameAndType 31 32), (0, u "counts"), (0, u "[I"), (0, .methodref 34 35), (0, .class_ 36), (0, .nameAndType 37 38), (0, u "java/lang/Integer"), (0, u "highestOneBit"), (0, u "(I)I"), (0, .fieldref 1 40), (0, .nameAndType 41 42), (0, u "top"), (0, u "I"), (0, .fieldref 1 44), (0, .nameAndType 45 17), (0, u "total"), (0, .fieldref 1 47), (0, .nameAndType 48 42), (0, u "taking"), (0, .fieldref 1 50), (0, .nameAndType 51 17), (0, u "risingCount"), (2, u "climbs"), (9, u "(J)I"), (2, u "takingPartAt"), (0, .methodref 1 69), (0, .nameAndType 70 71), (0, u "rises"), (0, u "(I)Z"), (0, .methodref 1 73), (0, .nameAndType 74 75), (0, u "add"), (0, u "(IJIJ)V"), (8, .fieldref 1 85), (0, .nameAndType 86 25), (0, u "rising"), (0, .fieldref 1 88), (0, .nameAndType 89 21), (0, u "risers"), (3, .class_ 94), (0, u "com/example/load_across_peers/loadacrosspeers/internal/pick/Participation$Field"), (0, u "CLIMBS_BETWEEN_REBASES"), (10, u "(I)V"), (0, u "withdraw")] 8

def k3c0 : Code := { maxStack := 7, maxLocals := 6, code := prog_32_method_2_code, exceptionTable := #[], attributes := #[] }
def k3m0 : Method := { name := "<init>", desc := "([JJ)V", sig := { parameters := [(.array .long), .long], returnType := none }, accessFlags := 0, code := some k3c0 }
def k3c1 : Code := { maxStack := 4, maxLocals := 8, code := prog_32_method_5_code, exceptionTable := #[], attributes := #[] }
def k3m1 : Method := { name := "takingPartAt", desc := "(J)I", sig := { parameters := [.long], returnType := some .int }, accessFlags := 0, code := some k3c1 }
def k3c2 : Code := { maxStack := 7, maxLocals := 2, code := prog_32_method_8_code, exceptionTable := #[], attributes := #[] }
def k3m2 : Method := { name := "withdraw", desc := "(I)V", sig := { parameters := [.int], returnType := none }, accessFlags := 1, code := some k3c2 }
def k3c3 : Code := { maxStack := 2, maxLocals := 2, code := prog_32_method_11_code, exceptionTable := #[], attributes := #[] }
def k3m3 : Method := { name := "rises", desc := "(I)Z", sig := { parameters := [.int], returnType := some .boolean }, accessFlags := 2, code := some k3c3 }
def k3c4 : Code := { maxStack := 6, maxLocals := 8, code := prog_32_method_13_code, exceptionTable := #[], attributes := #[] }
def k3m4 : Method := { name := "add", desc := "(IJIJ)V", sig := { parameters := [.int, .long, .int, .long], returnType := none }, accessFlags := 2, code := some k3c4 }
/-- com/example/load_across_peers/loadacrosspeers/internal/pick/WeightTree -/
def k3 : Class := { plain "com/example/load_across_peers/loadacrosspeers/internal/pick/WeightTree" (some 0) with
  accessFlags := 48
  interfaces := #[2]
  cf := some (fileOf pool3 1 #[] #[{ accessFlags := 0, nameIndex := 7, descriptorIndex := 8, attributes := #[] }, { accessFlags := 0, nameIndex := 67, descriptorIndex := 64, attributes := #[] }, { accessFlags := 1, nameIndex := 107, descriptorIndex := 106, attributes := #[] }, { accessFlags := 2, nameIndex := 70, descriptorIndex := 71, attributes := #[] }, { accessFlags := 2, nameIndex := 74, descriptorIndex := 75, attributes := #[] }] 48 10 #[93] #[{ accessFlags := 26, nameIndex := 95, descriptorIndex := 17, attributes := #[] }, { accessFlags := 18, nameIndex := 20, descriptorIndex := 21, attributes := #[] }, { accessFlags := 18, nameIndex := 24, descriptorIndex := 25, attributes := #[] }, { accessFlags := 2, nameIndex := 86, descriptorIndex := 25, attributes := #[] }, { accessFlags := 18, nameIndex := 28, descriptorIndex := 21, attributes := #[] }, { accessFlags := 18, nameIndex := 31, descriptorIndex := 32, attributes := #[] }, { accessFlags := 2, nameIndex := 89, descriptorIndex := 21, attributes := #[] }, { accessFlags := 18, nameIndex := 41, descriptorIndex := 42, attributes := #[] }, { accessFlags := 2, nameIndex := 45, descriptorIndex := 17, attributes := #[] }, { accessFlags := 2, nameIndex := 48, descriptorIndex := 42, attributes := #[] }, { accessFlags := 2, nameIndex := 51, descriptorIndex := 17, attributes := #[] }, { accessFlags := 2, nameIndex := 54, descriptorIndex := 17, attributes := #[] }, { accessFlags := 18, nameIndex := 16, descriptorIndex := 17, attributes := #[] }])
  fields := #[{ name := "CLIMBS_BETWEEN_REBASES", type := .long, accessFlags := 26, slot := 0, constantValue := 0 }, { name := "weights", type := (.array .long), accessFlags := 18, slot := 0, constantValue := 0 }, { name := "present", type := (.array .boolean), accessFlags := 18, slot := 1, constantValue := 0 }, { name := "rising", type := (.array .boolean), accessFlags := 2, slot := 2, constantValue := 0 }, { name := "sums", type := (.array .long), accessFlags := 18, slot := 3, constantValue := 0 }, { name := "counts", type := (.array .int), accessFlags := 18, slot := 4, constantValue := 0 }, { name := "risers", type := (.array .long), accessFlags := 2, slot := 5, constantValue := 0 }, { name := "top", type := .int, accessFlags := 18, slot := 6, constantValue := 0 }, { name := "total", type := .long, accessFlags := 2, slot := 7, constantValue := 0 }, { name := "taking", type := .int, accessFlags := 2, slot := 8, constantValue := 0 }, { name := "risingCount", type := .long, accessFlags := 2, slot := 9, constantValue := 0 }, { name := "climbs", type := .long, accessFlags := 2, slot := 10, constantValue := 0 }, { name := "climbsBetweenRebases", type := .long, accessFlags := 18, slot := 11, constantValue := 0 }]
  methods := #[k3m0, k3m1, k3m2, k3m3, k3m4]
  instanceTypes := #[(.array .long), (.array .boolean), (.array .boolean), (.array .long), (.array .int), (.array .long), .int, .long, .int, .long, .long, .long]
  staticTypes := #[.long]
  resolved := Array.replicate 116 none
  statics := none }

def pool4 : Array CpInfo := pool [(1, .class_ 2), (0, u "java/io/Serializable"), (0, .class_ 4), (0, u "java/lang/Object")] 2

/-- java/io/Serializable -/
def k4 : Class := { plain "java/io/Serializable" (some 0) with
  accessFlags := 1537
  interfaces := #[]
  cf := some (fileOf pool4 1 #[] #[] 1537 3 #[] #[])
  fields := #[]
  methods := #[]
  instanceTypes := #[]
  staticTypes := #[]
  resolved := Array.replicate 7 none
  statics := none }

def pool5 : Array CpInfo := pool [(2, .class_ 4), (1, u "java/lang/Object"), (0, u "<init>"), (0, u "()V"), (1, .class_ 10), (1, u "java/lang/Number"), (2, .class_ 14), (0, u "java/io/Serializable"), (0, u "serialVersionUID"), (0, u "J")] 20

def k5m0 : Method := { name := "<init>", desc := "()V", sig := { parameters := [], returnType := none }, accessFlags := 1, code := none }
/-- java/lang/Number -/
def k5 : Class := { plain "java/lang/Number" (some 0) with
  accessFlags := 1057
  interfaces := #[4]
  cf := some (fileOf pool5 8 #[] #[{ accessFlags := 1, nameIndex := 5, descriptorIndex := 6, attributes := #[] }] 1057 2 #[13] #[{ accessFlags := 26, nameIndex := 15, descriptorIndex := 16, attributes := #[] }])
  fields := #[{ name := "serialVersionUID", type := .long, accessFlags := 26, slot := 0, constantValue := 0 }]
  methods := #[k5m0]
  instanceTypes := #[]
  staticTypes := #[.long]
  resolved := Array.replicate 37 none
  statics := none }

def pool6 : Array CpInfo := pool [(1, .class_ 2), (0, u "java/lang/Comparable"), (0, .class_ 4), (0, u "java/lang/Object")] 7

/-- java/lang/Comparable -/
def k6 : Class := { plain "java/lang/Comparable" (some 0) with
  accessFlags := 1537
  interfaces := #[]
  cf := some (fileOf pool6 1 #[] #[] 1537 3 #[] #[])
  fields := #[]
  methods := #[]
  instanceTypes := #[]
  staticTypes := #[]
  resolved := Array.replicate 12 none
  statics := none }

def pool7 : Array CpInfo := pool [(1, .class_ 2), (0, u "java/lang/constant/Constable"), (0, .class_ 4), (0, u "java/lang/Object")] 6

/-- java/lang/constant/Constable -/
def k7 : Class := { plain "java/lang/constant/Constable" (some 0) with
  accessFlags := 1537
  interfaces := #[]
  cf := some (fileOf pool7 1 #[] #[] 1537 3 #[] #[])
  fields := #[]
  methods := #[]
  instanceTypes := #[]
  staticTypes := #[]
  resolved := Array.replicate 11 none
  statics := none }

def pool8 : Array CpInfo := pool [(1, .class_ 2), (0, u "java/lang/constant/ConstantDesc"), (0, .class_ 4), (0, u "java/lang/Object")] 32

/-- java/lang/constant/ConstantDesc -/
def k8 : Class := { plain "java/lang/constant/ConstantDesc" (some 0) with
  accessFlags := 1537
  interfaces := #[]
  cf := some (fileOf pool8 1 #[] #[] 1537 3 #[] #[])
  fields := #[]
  methods := #[]
  instanceTypes := #[]
  staticTypes := #[]
  resolved := Array.replicate 37 none
  statics := none }

def pool9 : Array CpInfo := pool [(1, .class_ 2), (0, u "java/lang/Integer"), (16, u "digits"), (0, u "[C"), (30, .methodref 1 52), (0, .nameAndType 53 54), (0, u "numberOfLeadingZeros"), (0, u "(I)I"), (30, u "DigitOnes"), (0, u "[B"), (2, u "DigitTens"), (37, .integer 2147483648), (61, .class_ 190), (0, u "java/lang/Integer$IntegerCache"), (3, u "I"), (8, .class_ 204), (0, u "java/lang/Number"), (2, u "value"), (56, .integer 65536), (37, u "TYPE"), (0, u "Ljava/lang/Class;"), (0, .class_ 305), (0, u "java/lang/Comparable"), (0, .class_ 307), (0, u "java/lang/constant/Constable"), (0, .class_ 309), (0, u "java/lang/constant/ConstantDesc"), (0, u "MIN_VALUE"), (1, u "MAX_VALUE"), (3, u "SIZE"), (1, u "BYTES"), (1, u "serialVersionUID"), (0, u "J"), (81, u "highestOneBit")] 49

def k9c0 : Code := { maxStack := 3, maxLocals := 1, code := jdk_33_method_45_code, exceptionTable := #[], attributes := #[] }
def k9m0 : Method := { name := "highestOneBit", desc := "(I)I", sig := { parameters := [.int], returnType := some .int }, accessFlags := 9, code := some k9c0 }
def k9c1 : Code := { maxStack := 3, maxLocals := 2, code := jdk_33_method_47_code, exceptionTable := #[], attributes := #[] }
def k9m1 : Method := { name := "numberOfLeadingZeros", desc := "(I)I", sig := { parameters := [.int], returnType := some .int }, accessFlags := 9, code := some k9c1 }
/-- java/lang/Integer -/
def k9 : Class := { plain "java/lang/Integer" (some 5) with
  accessFlags := 49
  interfaces := #[6, 7, 8]
  cf := some (fileOf pool9 1 #[.nestMembers #[189]] #[{ accessFlags := 9, nameIndex := 403, descriptorIndex := 54, attributes := #[] }, { accessFlags := 9, nameIndex := 53, descriptorIndex := 54, attributes := #[] }] 49 203 #[304, 306, 308] #[{ accessFlags := 25, nameIndex := 310, descriptorIndex := 194, attributes := #[] }, { accessFlags := 25, nameIndex := 312, descriptorIndex := 194, attributes := #[] }, { accessFlags := 25, nameIndex := 302, descriptorIndex := 303, attributes := #[] }, { accessFlags := 24, nameIndex := 19, descriptorIndex := 20, attributes := #[] }, { accessFlags := 24, nameIndex := 89, descriptorIndex := 86, attributes := #[] }, { accessFlags := 24, nameIndex := 85, descriptorIndex := 86, attributes := #[] }, { accessFlags := 18, nameIndex := 207, descriptorIndex := 194, attributes := #[] }, { accessFlags := 25, nameIndex := 316, descriptorIndex := 194, attributes := #[] }, { accessFlags := 25, nameIndex := 318, descriptorIndex := 194, attributes := #[] }, { accessFlags := 26, nameIndex := 320, descriptorIndex := 321, attributes := #[] }])
  fields := #[{ name := "MIN_VALUE", type := .int, accessFlags := 25, slot := 0, constantValue := 0 }, { name := "MAX_VALUE", type := .int, accessFlags := 25, slot := 1, constantValue := 0 }, { name := "TYPE", type := (.object "java/lang/Class"), accessFlags := 25, slot := 2, constantValue := 0 }, { name := "digits", type := (.array .char), accessFlags := 24, slot := 3, constantValue := 0 }, { name := "DigitTens", type := (.array .byte), accessFlags := 24, slot := 4, constantValue := 0 }, { name := "DigitOnes", type := (.array .byte), accessFlags := 24, slot := 5, constantValue := 0 }, { name := "value", type := .int, accessFlags := 18, slot := 0, constantValue := 0 }, { name := "SIZE", type := .int, accessFlags := 25, slot := 6, constantValue := 0 }, { name := "BYTES", type := .int, accessFlags := 25, slot := 7, constantValue := 0 }, { name := "serialVersionUID", type := .long, accessFlags := 26, slot := 8, constantValue := 0 }]
  methods := #[k9m0, k9m1]
  instanceTypes := #[.int]
  staticTypes := #[.int, .int, (.object "java/lang/Class"), (.array .char), (.array .byte), (.array .byte), .int, .int, .long]
  resolved := Array.replicate 453 none
  statics := none }

def pool10 : Array CpInfo := pool [(1, u "java/lang/Cloneable"), (0, .class_ 1), (0, u "java/lang/Object"), (0, .class_ 3)] 3

/-- java/lang/Cloneable -/
def k10 : Class := { plain "java/lang/Cloneable" (some 0) with
  accessFlags := 1537
  interfaces := #[]
  cf := some (fileOf pool10 2 #[] #[] 1537 4 #[] #[])
  fields := #[]
  methods := #[]
  instanceTypes := #[]
  staticTypes := #[]
  resolved := Array.replicate 8 none
  statics := none }

/-- the primitive boolean -/
def k11 : Class := { plain "boolean" none with kind := .primitive 'Z', accessFlags := 0x411 }
/-- [Z -/
def k12 : Class := { plain "[Z" (some 0) with kind := .array 11 .boolean, interfaces := #[10, 4], accessFlags := 1041 }

/-- the primitive byte -/
def k13 : Class := { plain "byte" none with kind := .primitive 'B', accessFlags := 0x411 }
/-- [B -/
def k14 : Class := { plain "[B" (some 0) with kind := .array 13 .byte, interfaces := #[10, 4], accessFlags := 1041 }

/-- the primitive int -/
def k15 : Class := { plain "int" none with kind := .primitive 'I', accessFlags := 0x411 }
/-- [I -/
def k16 : Class := { plain "[I" (some 0) with kind := .array 15 .int, interfaces := #[10, 4], accessFlags := 1041 }

/-- the primitive long -/
def k17 : Class := { plain "long" none with kind := .primitive 'J', accessFlags := 0x411 }
/-- [J -/
def k18 : Class := { plain "[J" (some 0) with kind := .array 17 .long, interfaces := #[10, 4], accessFlags := 1041 }

def heap : Heap := #[]
def classes : Array Class := #[k0, k1, k2, k3, k4, k5, k6, k7, k8, k9, k10, k11, k12, k13, k14, k15, k16, k17, k18]
def interned : List (Array UInt16 × Addr) := []
def slotsUsed : Nat := 0
def theMethod : MethodId := ⟨1, 1⟩
def args0 : Array Value := #[.int 5, .long 7, .int 9]
def aboutOver (below : List Frame) : State where
  vm := { classes := classes, interned := interned.toArray }
  heap := heap
  slotsUsed := slotsUsed
  threads := #[{ frames := .invoking theMethod args0 :: below }]
def below0 : List Frame := [.native { method := ⟨0, 0⟩, args := #[] }]
def about1 : State := aboutOver below0
def p0 : Program := .bare "" "" ""
def e0 : Env := launch0.env 0 0 0
theorem w_frames : about1.frames = Frame.invoking theMethod args0 :: below0 := rfl
set_option maxRecDepth 65536 in
theorem w_args : argsFit about1.vm theMethod args0 = true := by decide +kernel
set_option maxRecDepth 65536 in
theorem w_heap : heapFits about1 = true := by decide +kernel
set_option maxRecDepth 65536 in
theorem w_runnable : about1.curStatus? = some .runnable := by decide +kernel
set_option maxRecDepth 65536 in
theorem w_alone : about1.alone = true := by decide +kernel
set_option maxRecDepth 65536 in
theorem w_named : about1.methodNamed? x = some theMethod := by decide +kernel
set_option maxRecDepth 65536 in
theorem w_hears : about1.hears theMethod below0 = true := by decide +kernel
set_option maxRecDepth 65536 in
theorem w_ripe : about1.ripe theMethod args0 below0 = true := by decide +kernel
theorem w_running : about1.status = .running := rfl
set_option maxRecDepth 65536 in
theorem w_room : about1.hasRoom e0.platform room_1 = true :=
  launch0.hasRoom_least _ room_1 (by decide +kernel) (by decide +kernel) (by decide +kernel) (by decide +kernel) (by decide +kernel) (by decide +kernel)
theorem allAtoms_all (ts : List Jvm.Cond) (a : Array Jvm.Value) (st : Jvm.State) : (allAtoms ts).before a st = ts.all (fun c => c.before a st) := by
  induction ts with
  | nil => rfl
  | cons c t ih =>
    show (Jvm.Cond.and c (allAtoms t)).before a st = _
    rw [Jvm.Cond.before_and, ih, List.all_cons]
def words1 : List Jvm.Cond := Jvm.Cond.code x code maxLocals ret :: tables_1
/-- a 'code' word, met by the world's own term for the bytes: nothing is compared byte by byte -/
theorem code_word {y : MethodName} {bytes : ByteArray} {mx : Nat} {rt : Option FieldType} {a : Array Value} {s : State} {m : MethodId} {meth : Method} {c : Code} (h1 : s.methodNamed? y = some m) (h2 : s.vm.method? m = some meth) (h3 : meth.code = some c) (h4 : c.code = bytes)
    (h5 : (c.maxLocals == mx && c.exceptionTable.isEmpty && decide (c.maxStack ≤ mostOperands) && decide (meth.sig.returnType = rt) && !meth.locks && decide (parseMethodDescriptor y.desc = some meth.sig)) = true) : (Jvm.Cond.code y bytes mx rt).before a s = true := by
  simp only [Bool.and_eq_true, beq_iff_eq, Bool.not_eq_true', decide_eq_true_eq] at h5
  obtain ⟨⟨⟨⟨⟨g1, g2⟩, g3⟩, g4⟩, g5⟩, g6⟩ := h5
  simp [Cond.before, Cond.holds, Cond.value, h1, h2, h3, h4, g1, g2, g3, g4, g5, g6]
def isCode : Jvm.Cond → Bool
  | .code _ _ _ _ => true
  | _ => false
theorem all_split {L : List Jvm.Cond} {P : Jvm.Cond → Bool} (h1 : L.all (fun c => isCode c || P c) = true) (h2 : ∀ c ∈ L.filter isCode, P c = true) : L.all P = true := by
  refine List.all_eq_true.mpr fun c hc => ?_
  have h := List.all_eq_true.mp h1 c hc
  rcases Bool.eq_false_or_eq_true (isCode c) with hi | hi
  · exact h2 c (List.mem_filter.mpr ⟨hc, hi⟩)
  · simpa [hi] using h
set_option maxRecDepth 65536 in
theorem w_c0 : (Jvm.Cond.code x code maxLocals ret).before args0 about1 = true := code_word (m := ⟨1, 1⟩) (meth := k1m1) (c := k1c1) (by decide +kernel) rfl rfl rfl (by decide +kernel)
set_option maxRecDepth 65536 in
theorem w_c1 : (Jvm.Cond.code ({ cls := "com/example/load_across_peers/loadacrosspeers/internal/pick/WeightTree", name := "<init>", desc := "([JJ)V" } : Jvm.MethodName) prog_32_method_2_code (6 : Nat) (Option.none : Option Jvm.ClassFile.FieldType)).before args0 about1 = true := code_word (m := ⟨3, 0⟩) (meth := k3m0) (c := k3c0) (by decide +kernel) rfl rfl rfl (by decide +kernel)
set_option maxRecDepth 65536 in
theorem w_c2 : (Jvm.Cond.code ({ cls := "java/lang/Object", name := "<init>", desc := "()V" } : Jvm.MethodName) object_method_1_code (1 : Nat) (Option.none : Option Jvm.ClassFile.FieldType)).before args0 about1 = true := code_word (m := ⟨0, 0⟩) (meth := k0m0) (c := k0c0) (by decide +kernel) rfl rfl rfl (by decide +kernel)
set_option maxRecDepth 65536 in
theorem w_c3 : (Jvm.Cond.code ({ cls := "java/lang/Integer", name := "highestOneBit", desc := "(I)I" } : Jvm.MethodName) jdk_33_method_45_code (1 : Nat) (Option.some Jvm.ClassFile.FieldType.int)).before args0 about1 = true := code_word (m := ⟨9, 0⟩) (meth := k9m0) (c := k9c0) (by decide +kernel) rfl rfl rfl (by decide +kernel)
set_option maxRecDepth 65536 in
theorem w_c4 : (Jvm.Cond.code ({ cls := "java/lang/Integer", name := "numberOfLeadingZeros", desc := "(I)I" } : Jvm.MethodName) jdk_33_method_47_code (2 : Nat) (Option.some Jvm.ClassFile.FieldType.int)).before args0 about1 = true := code_word (m := ⟨9, 1⟩) (meth := k9m1) (c := k9c1) (by decide +kernel) rfl rfl rfl (by decide +kernel)
set_option maxRecDepth 65536 in
theorem w_c5 : (Jvm.Cond.code ({ cls := "com/example/load_across_peers/loadacrosspeers/internal/pick/WeightTree", name := "takingPartAt", desc := "(J)I" } : Jvm.MethodName) prog_32_method_5_code (8 : Nat) (Option.some Jvm.ClassFile.FieldType.int)).before args0 about1 = true := code_word (m := ⟨3, 1⟩) (meth := k3m1) (c := k3c1) (by decide +kernel) rfl rfl rfl (by decide +kernel)
set_option maxRecDepth 65536 in
theorem w_c6 : (Jvm.Cond.code ({ cls := "com/example/load_across_peers/loadacrosspeers/internal/pick/WeightTree", name := "withdraw", desc := "(I)V" } : Jvm.MethodName) prog_32_method_8_code (2 : Nat) (Option.none : Option Jvm.ClassFile.FieldType)).before args0 about1 = true := code_word (m := ⟨3, 2⟩) (meth := k3m2) (c := k3c2) (by decide +kernel) rfl rfl rfl (by decide +kernel)
set_option maxRecDepth 65536 in
theorem w_c7 : (Jvm.Cond.code ({ cls := "com/example/load_across_peers/loadacrosspeers/internal/pick/WeightTree", name := "rises", desc := "(I)Z" } : Jvm.MethodName) prog_32_method_11_code (2 : Nat) (Option.some Jvm.ClassFile.FieldType.boolean)).before args0 about1 = true := code_word (m := ⟨3, 3⟩) (meth := k3m3) (c := k3c3) (by decide +kernel) rfl rfl rfl (by decide +kernel)
set_option maxRecDepth 65536 in
theorem w_c8 : (Jvm.Cond.code ({ cls := "com/example/load_across_peers/loadacrosspeers/internal/pick/WeightTree", name := "add", desc := "(IJIJ)V" } : Jvm.MethodName) prog_32_method_13_code (8 : Nat) (Option.none : Option Jvm.ClassFile.FieldType)).before args0 about1 = true := code_word (m := ⟨3, 4⟩) (meth := k3m4) (c := k3c4) (by decide +kernel) rfl rfl rfl (by decide +kernel)
def codes1 : List Jvm.Cond := [Jvm.Cond.code x code maxLocals ret, Jvm.Cond.code ({ cls := "com/example/load_across_peers/loadacrosspeers/internal/pick/WeightTree", name := "<init>", desc := "([JJ)V" } : Jvm.MethodName) prog_32_method_2_code (6 : Nat) (Option.none : Option Jvm.ClassFile.FieldType), Jvm.Cond.code ({ cls := "java/lang/Object", name := "<init>", desc := "()V" } : Jvm.MethodName) object_method_1_code (1 : Nat) (Option.none : Option Jvm.ClassFile.FieldType), Jvm.Cond.code ({ cls := "java/lang/Integer", name := "highestOneBit", desc := "(I)I" } : Jvm.MethodName) jdk_33_method_45_code (1 : Nat) (Option.some Jvm.ClassFile.FieldType.int), Jvm.Cond.code ({ cls := "java/lang/Integer", name := "numberOfLeadingZeros", desc := "(I)I" } : Jvm.MethodName) jdk_33_method_47_code (2 : Nat) (Option.some Jvm.ClassFile.FieldType.int), Jvm.Cond.code ({ cls := "com/example/load_across_peers/loadacrosspeers/internal/pick/WeightTree", name := "takingPartAt", desc := "(J)I" } : Jvm.MethodName) prog_32_method_5_code (8 : Nat) (Option.some Jvm.ClassFile.FieldType.int), Jvm.Cond.code ({ cls := "com/example/load_across_peers/loadacrosspeers/internal/pick/WeightTree", name := "withdraw", desc := "(I)V" } : Jvm.MethodName) prog_32_method_8_code (2 : Nat) (Option.none : Option Jvm.ClassFile.FieldType), Jvm.Cond.code ({ cls := "com/example/load_across_peers/loadacrosspeers/internal/pick/WeightTree", name := "rises", desc := "(I)Z" } : Jvm.MethodName) prog_32_method_11_code (2 : Nat) (Option.some Jvm.ClassFile.FieldType.boolean), Jvm.Cond.code ({ cls := "com/example/load_across_peers/loadacrosspeers/internal/pick/WeightTree", name := "add", desc := "(IJIJ)V" } : Jvm.MethodName) prog_32_method_13_code (8 : Nat) (Option.none : Option Jvm.ClassFile.FieldType)]
set_option maxRecDepth 65536 in
theorem codes_eq : words1.filter isCode = codes1 := rfl
theorem w_codes : ∀ c ∈ words1.filter isCode, c.before args0 about1 = true := by
  rw [codes_eq]
  intro c hc
  simp only [codes1, List.mem_cons, List.not_mem_nil, or_false] at hc
  rcases hc with rfl | rfl | rfl | rfl | rfl | rfl | rfl | rfl | rfl
  · exact w_c0
  · exact w_c1
  · exact w_c2
  · exact w_c3
  · exact w_c4
  · exact w_c5
  · exact w_c6
  · exact w_c7
  · exact w_c8
set_option maxRecDepth 65536 in
theorem w_t1 : (words1.take 24).all (fun c => isCode c || c.before args0 about1) = true := by decide +kernel
set_option maxRecDepth 65536 in
theorem w_t2 : ((words1.drop 24).take 24).all (fun c => isCode c || c.before args0 about1) = true := by decide +kernel
set_option maxRecDepth 65536 in
theorem w_t3 : ((words1.drop 24).drop 24).all (fun c => isCode c || c.before args0 about1) = true := by decide +kernel
theorem w_tables : (allAtoms (Jvm.Cond.code x code maxLocals ret :: tables_1)).before args0 about1 = true := by
  rw [allAtoms_all]
  show words1.all (fun c => c.before args0 about1) = true
  refine all_split ?_ w_codes
  rw [← List.take_append_drop 24 words1, List.all_append, w_t1, ← List.take_append_drop 24 (words1.drop 24), List.all_append, w_t2, w_t3]
  rfl
set_option maxRecDepth 65536 in
theorem w_case : (Jvm.Cond.and given_1 narrow_1).before args0 about1 = true := by decide +kernel
theorem w_applies : (headSpec (Jvm.Cond.code x code maxLocals ret :: tables_1) room_1).applies x e0.platform about1 = true :=
  (Spec.applies_iff w_frames).mpr ⟨w_running, w_runnable, w_alone, w_named, w_hears, w_ripe, w_room, w_tables⟩
theorem atStart : AtStart classFile x code maxLocals ret World_1 tables_1 room_1 Calls_1 rest_1 Pre_1 launch0 p0 e0 about1 theMethod args0 below0 :=
  ⟨lists_1, trivial, launch0.admits_env _ _ _, launch0.least_env, fairChoices_fair.cas, fairChoices_fair.clock, w_frames, w_args, w_heap, w_applies, trivial, trivial, w_case⟩
end start1
theorem witness_1 : WitnessClaimed_1 := ⟨start1.p0, start1.e0, start1.about1, start1.theMethod, start1.args0, start1.below0, start1.atStart⟩
end Jvm.Pilot.@@N@@
