import JvmDerived
import JvmDerived.Pilot.@@N@@Statement
import JvmDerived.Pilot.@@N@@Code
set_option linter.unusedVariables false
set_option linter.unusedSimpArgs false
@@BLOCK:NumsL.lean.txt@@
namespace Jvm.Pilot.@@N@@
open Jvm Jvm.ClassFile Sem Op Lib Jvm.Free Jvm.Stand Jvm.LawKit Jvm.RoadKit Bundle Jvm.Pilot.@@N@@.Jvm.D
/-- a long's slot, written short -/
abbrev jv (x : Int64) : Slot := .val (.long x)
section OwnKit
variable {p : Program} {l : Launch} {e : Env} {R : Room} {s : State} {m : MethodId} {args : Array Value} {below : List Frame} {meth : Method} {c : Code} {T T' : State} {locs : List Loc} {cells slots : Nat} {Q : Option Value → Heap → List Loc → Prop} {kc ks : Nat} {g : JFrame} {Z : State} {a0 : Array Value} {h : Heap}
/-- what is left to do, from the state T with the top frame g: the run comes to the invocation's end, returns, and the end is as Q says -/
def own_G (p : Program) (e : Env) (below : List Frame) (s : State) (Q : Option Value → Heap → List Loc → Prop) (kc ks : Nat) (T : State) (g : JFrame) : Prop :=
  ∃ t o, Steps p.tables e below (T.setTop g) t ∧ t.status = .running ∧ Ended t below o ∧ ∃ v L, o = .returned v ∧ Q v t.heap L ∧ FrameEnd s o t L kc ks
theorem own_go (g' : JFrame) (k : ∀ t, Steps p.tables e below (T'.setTop g') t → Steps p.tables e below (T.setTop g) t) (h : own_G p e below s Q kc ks T' g') : own_G p e below s Q kc ks T g := by
  obtain ⟨t, o, h1, h2⟩ := h
  exact ⟨t, o, k t h1, h2⟩
theorem own_out (X : Stand p l e R s m args below meth c T locs cells slots) (hlk : meth.locks = false) {v : Option Value} (hv : meth.sig.returnType = none → v = none)
    (st : ∀ fs, (∀ (f : JFrame) (acts : List Action), f.method = m → f.locked = none → f.entered = [] → (doReturn e (T.setTop f) acts v).1 = T.setFrames fs) → Steps p.tables e below (T.setTop g) (T.setFrames fs))
    (hQ : Q v T.heap locs) (h1 : cells ≤ kc) (h2 : slots ≤ ks) : own_G p e below s Q kc ks T g := by
  obtain ⟨fs, hr, hrun, hended, hW, hsame⟩ := X.leave (v := v) hv hlk
  exact ⟨_, _, st fs hr, hrun, hended, v, locs, rfl, hQ, ⟨_, rfl⟩, hW, hsame.mono h1 h2⟩
theorem own_retI (X : Stand p l e R s m args below meth c T locs cells slots) (hx : p.tables.exec = Jvm.exec) (hlk : meth.locks = false) (hret : meth.sig.returnType = some .int) {pc : Nat} {Ls : Array Slot} {z : Int32} {rest : List Value} (hd : decode c.code pc = .ok (.ireturn, 1))
    (hQ : Q (some (.int z)) T.heap locs) (h1 : cells ≤ kc) (h2 : slots ≤ ks) : own_G p e below s Q kc ks T (mkF m pc Ls (.int z :: rest)) := by
  refine own_out X hlk (v := some (.int z)) (fun h => by rw [hret] at h; cases h) (fun fs hl => ?_) hQ h1 h2
  have hm' : T.vm.method? m = some meth := X.method'
  have hn : narrow .int (.int z) = .int z := rfl
  show Steps p.tables e below (T.setTop { method := m, pc := pc, locals := Ls, stack := _ :: rest, locked := none }) _
  jvm_step X.here [X.here.top, hx, hd, hm', hret, hn]
  first | (intro acts; rw [hl _ acts rfl rfl rfl]) | rw [hl _ _ rfl rfl rfl]
  exact Steps.refl _
theorem own_retZ (X : Stand p l e R s m args below meth c T locs cells slots) (hx : p.tables.exec = Jvm.exec) (hlk : meth.locks = false) (hret : meth.sig.returnType = some .boolean) {pc : Nat} {Ls : Array Slot} {z : Int32} {rest : List Value} (hd : decode c.code pc = .ok (.ireturn, 1))
    (hQ : Q (some (.int (z &&& 1))) T.heap locs) (h1 : cells ≤ kc) (h2 : slots ≤ ks) : own_G p e below s Q kc ks T (mkF m pc Ls (.int z :: rest)) :=
  own_out X hlk (v := some (.int (z &&& 1))) (fun h => by rw [hret] at h; cases h) (fun fs hl => retN X hx (t := .boolean) hret (by simp) hd hl) hQ h1 h2
theorem own_retJ (X : Stand p l e R s m args below meth c T locs cells slots) (hx : p.tables.exec = Jvm.exec) (hlk : meth.locks = false) (hret : meth.sig.returnType = some .long) {pc : Nat} {Ls : Array Slot} {z : Int64} (hd : decode c.code pc = .ok (.lreturn, 1))
    (hQ : Q (some (.long z)) T.heap locs) (h1 : cells ≤ kc) (h2 : slots ≤ ks) : own_G p e below s Q kc ks T (mkF m pc Ls [.long z]) :=
  own_out X hlk (v := some (.long z)) (fun h => by rw [hret] at h; cases h) (fun fs hl => X.lreturnOut hx hret hd hl) hQ h1 h2
theorem own_retA (X : Stand p l e R s m args below meth c T locs cells slots) (hx : p.tables.exec = Jvm.exec) (hlk : meth.locks = false) {t : FieldType} (hret : meth.sig.returnType = some t) (ht : t.isReference = true) {pc : Nat} {Ls : Array Slot} {z : Value} (hz : z.isRef = true) (hd : decode c.code pc = .ok (.areturn, 1))
    (hQ : Q (some z) T.heap locs) (h1 : cells ≤ kc) (h2 : slots ≤ ks) : own_G p e below s Q kc ks T (mkF m pc Ls [z]) :=
  own_out X hlk (v := some z) (fun h => by rw [hret] at h; cases h) (fun fs hl => X.areturnOut hx hz hret ht hd hl) hQ h1 h2
theorem own_retV (X : Stand p l e R s m args below meth c T locs cells slots) (hx : p.tables.exec = Jvm.exec) (hlk : meth.locks = false) (hret : meth.sig.returnType = none) {pc : Nat} {Ls : Array Slot} (hd : decode c.code pc = .ok (.return_, 1))
    (hQ : Q none T.heap locs) (h1 : cells ≤ kc) (h2 : slots ≤ ks) : own_G p e below s Q kc ks T (mkF m pc Ls []) :=
  own_out X hlk (v := none) (fun _ => rfl) (fun fs hl => X.returnOut hx hret hd hl) hQ h1 h2
/-- a method's contract at one heap and one row of arguments -/
def own_C (l : Launch) (Z : State) (y : MethodName) (bytes : ByteArray) (mx : Nat) (ret : Option FieldType) (ws : List Jvm.Cond) (rm : Room) (as : Array Value) (h0 : Heap) (Q : Option Value → Heap → List Loc → Prop) : Prop :=
  MetFree l y (head1 (Jvm.Cond.code y bytes mx ret :: ws) rm) (fun a U => a = as ∧ Z.Warmed39 U.vm ∧ U.heap = h0) (fun _ _ _ _ _ => True) (fun _ U o U' => ∃ v L, o = .returned v ∧ Q v U'.heap L ∧ FrameEnd U o U' L rm.cells rm.slots)
theorem own_met {y : MethodName} {bytes : ByteArray} {mx : Nat} {ret : Option FieldType} {ws : List Jvm.Cond} {rm : Room} {as : Array Value} {h0 : Heap} (hp : plainFor y = true) (L0 : Array Slot) (hef : ∀ m, entryFrame m as mx = mkF m 0 L0 [])
    (body : ∀ (p : Program) (e : Env) (s : State) (m : MethodId) (below : List Frame) (meth : Method) (c : Code) (s₁ : State), p.tables.exec = Jvm.exec → c.code = bytes → c.maxLocals = mx → s.vm.findClass y.cls = some m.cls → meth.sig.returnType = ret → meth.locks = false → Z.Warmed39 s.vm → meth.name = y.name →
      Stand p l e rm s m as below meth c s₁ [] 0 0 → s₁.heap = h0 → own_G p e below s Q rm.cells rm.slots s₁ (mkF m 0 L0 [])) :
    own_C l Z y bytes mx ret ws rm as h0 Q := by
  refine MetFree.of_bodySF hp hisR ?_
  intro p e s m args below meth c s₁ Bd hml0 hP hK
  obtain ⟨rfl, hZ, hh⟩ := hP
  have hown : s.vm.findClass y.cls = some m.cls := findClass_of_methodNamed Bd.named
  have hnm := (name_of_methodNamed Bd.named Bd.method).1
  have X0 : Stand p l e rm s m args below meth c s₁ [] 0 0 := Stand.of_body Bd
  have e0 : s₁.heap = h0 := by rw [← hh, Bd.state]; rfl
  obtain ⟨t, o, h1, h2⟩ := body p e s m below meth c s₁ Bd.exec Bd.bytes hml0 hown Bd.returns Bd.notSynchronized hZ hnm X0 e0
  exact ⟨t, o, castTop (hef m) h1, h2⟩
/-- a static call by the callee's contract -/
theorem own_callS (X : Stand p l e R s m args below meth c T locs cells slots) (hx : p.tables.exec = Jvm.exec) (hZ : Z.Warmed39 s.vm) {own : String} {index : Nat} {y : MethodName} {bytes : ByteArray} {mx : Nat} {ret : Option FieldType} {rm : Room} {Qc : Option Value → Heap → List Loc → Prop}
    (hown : s.vm.findClass own = some m.cls) (w1 : (Jvm.Cond.methodLink own index y).before a0 Z = true) (w2 : (Jvm.Cond.static y).before a0 Z = true) (w3 : (Jvm.Cond.initialized y.cls).before a0 Z = true) (w4 : (Jvm.Cond.code y bytes mx ret).before a0 Z = true) (hy : y.cls ≠ "java/lang/invoke/MethodHandle" ∧ y.cls ≠ "java/lang/invoke/VarHandle")
    (eT : T.heap = h) (argsL rest : List Value) (hM : own_C l Z y bytes mx ret [] rm argsL.toArray h Qc) (W : Nat) (hf : rm.frames + 1 ≤ R.frames) (hlo : W + (mx + 11) + rm.locals ≤ R.locals) (hW : (rest.map fun v => v.category).sum ≤ W) (hc : cells + rm.cells ≤ R.cells) (hs : slots + rm.slots ≤ R.slots)
    {pc : Nat} {Ls : Array Slot} {S : List Value} (hsize : Ls.size = c.maxLocals) (hlen : ∀ sig, parseMethodDescriptor y.desc = some sig → argsL.length = sig.parameters.length) (hS : S = argsL.reverse ++ rest) (hd : decode c.code pc = .ok (.invokestatic index, 3))
    (k : ∀ (T' : State) (v : Option Value) (L : List Loc), Stand p l e R s m args below meth c T' (locs ++ L) (cells + rm.cells) (slots + rm.slots) → Qc v T'.heap L → own_G p e below s Q kc ks T' (mkF m (pc + 3) Ls (v.toList ++ rest))) :
    own_G p e below s Q kc ks T (mkF m pc Ls S) := by
  obtain ⟨v, _, ⟨T', L', k', n'⟩, -, X', ⟨L, hQ, q1, q2, q3⟩, st⟩ := Jvm.LawKit.callS X hx (y := y) hown (mvT hZ w1) (mvT hZ w2) (mvT hZ w3) (mvT hZ w4) hy (backOf (W := W) hM hZ w4 w3 hf hlo) (g := mkF m pc Ls S) rfl hsize (argsL := argsL) (rest := rest) hlen hS (by show 2 * 0 + _ ≤ _; omega) hd (fun _ _ => ⟨rfl, eT, hc, hs⟩)
  dsimp only [Pt.U, Pt.locs, Pt.cells, Pt.slots] at X' q1 q2 q3 st hQ
  subst q1 q2 q3
  exact own_go _ st (k T' v L X' hQ)
/-- what a pure method's end is: this value, the heap as it was, no place written -/
def own_P (r : Value) (h0 : Heap) (v : Option Value) (h : Heap) (L : List Loc) : Prop := v = some r ∧ h = h0 ∧ L = []
/-- a static call of a pure method -/
theorem own_callP (X : Stand p l e R s m args below meth c T locs cells slots) (hx : p.tables.exec = Jvm.exec) (hZ : Z.Warmed39 s.vm) {own : String} {index : Nat} {y : MethodName} {bytes : ByteArray} {mx : Nat} {ret : Option FieldType} {fr lo : Nat} {r : Value}
    (hown : s.vm.findClass own = some m.cls) (w1 : (Jvm.Cond.methodLink own index y).before a0 Z = true) (w2 : (Jvm.Cond.static y).before a0 Z = true) (w3 : (Jvm.Cond.initialized y.cls).before a0 Z = true) (w4 : (Jvm.Cond.code y bytes mx ret).before a0 Z = true) (hy : y.cls ≠ "java/lang/invoke/MethodHandle" ∧ y.cls ≠ "java/lang/invoke/VarHandle")
    (eT : T.heap = h) (argsL rest : List Value) (hM : own_C l Z y bytes mx ret [] { frames := fr, cells := 0, slots := 0, locals := lo } argsL.toArray h (own_P r h)) (W : Nat) (hf : fr + 1 ≤ R.frames) (hlo : W + (mx + 11) + lo ≤ R.locals) (hW : (rest.map fun v => v.category).sum ≤ W) (hc : cells ≤ R.cells) (hs : slots ≤ R.slots)
    {pc : Nat} {Ls : Array Slot} {S : List Value} (hsize : Ls.size = c.maxLocals) (hlen : ∀ sig, parseMethodDescriptor y.desc = some sig → argsL.length = sig.parameters.length) (hS : S = argsL.reverse ++ rest) (hd : decode c.code pc = .ok (.invokestatic index, 3))
    (k : ∀ (T' : State), Stand p l e R s m args below meth c T' locs cells slots → T'.heap = h → own_G p e below s Q kc ks T' (mkF m (pc + 3) Ls (r :: rest))) :
    own_G p e below s Q kc ks T (mkF m pc Ls S) := by
  refine own_callS X hx hZ hown w1 w2 w3 w4 hy eT argsL rest hM W hf hlo hW hc hs hsize hlen hS hd ?_
  rintro T' v L X' ⟨rfl, q2, rfl⟩
  rw [List.append_nil] at X'
  exact k T' X' q2
/-- a constructor's call -/
theorem own_callI (X : Stand p l e R s m args below meth c T locs cells slots) (hx : p.tables.exec = Jvm.exec) (hZ : Z.Warmed39 s.vm) {own : String} {index : Nat} {y : MethodName} {bytes : ByteArray} {mx : Nat} {rm : Room} {Qc : Option Value → Heap → List Loc → Prop} (hy1 : y.name = "<init>")
    (hown : s.vm.findClass own = some m.cls) (w1 : (Jvm.Cond.methodLink own index y).before a0 Z = true) (w2 : (Jvm.Cond.instanceMethod y).before a0 Z = true) (w3 : (Jvm.Cond.initialized y.cls).before a0 Z = true) (w4 : (Jvm.Cond.code y bytes mx none).before a0 Z = true) (hy : y.cls ≠ "java/lang/invoke/MethodHandle" ∧ y.cls ≠ "java/lang/invoke/VarHandle")
    (eT : T.heap = h) (a : Addr) (argsL rest : List Value) (hM : own_C l Z y bytes mx none [] rm (.ref a :: argsL).toArray h Qc) (W : Nat) (hf : rm.frames + 1 ≤ R.frames) (hlo : W + (mx + 11) + rm.locals ≤ R.locals) (hW : (rest.map fun v => v.category).sum ≤ W) (hc : cells + rm.cells ≤ R.cells) (hs : slots + rm.slots ≤ R.slots)
    {pc : Nat} {Ls : Array Slot} {S : List Value} (hsize : Ls.size = c.maxLocals) (hlen : ∀ sig, parseMethodDescriptor y.desc = some sig → argsL.length = sig.parameters.length) (hS : S = argsL.reverse ++ .ref a :: rest) (hd : decode c.code pc = .ok (.invokespecial index, 3))
    (k : ∀ (T' : State) (v : Option Value) (L : List Loc), Stand p l e R s m args below meth c T' (locs ++ L) (cells + rm.cells) (slots + rm.slots) → Qc v T'.heap L → own_G p e below s Q kc ks T' (mkF m (pc + 3) Ls (v.toList ++ rest))) :
    own_G p e below s Q kc ks T (mkF m pc Ls S) := by
  obtain ⟨v, _, ⟨T', L', k', n'⟩, -, X', ⟨L, hQ, q1, q2, q3⟩, st⟩ := X.specialBack hx (y := y) hy1 hown (mvT hZ w1) (mvT hZ w2) (mvT hZ w4) hy (backOf (W := W) hM hZ w4 w3 hf hlo) (g := mkF m pc Ls S) rfl hsize (Steps.refl _) (a := a) (argsL := argsL) (rest := rest) hlen hS (by show 2 * 0 + _ ≤ _; omega) hd (fun _ _ => ⟨rfl, eT, hc, hs⟩)
  dsimp only [Pt.U, Pt.locs, Pt.cells, Pt.slots] at X' q1 q2 q3 st hQ
  subst q1 q2 q3
  exact own_go _ (fun t kt => st.trans kt) (k T' v L X' hQ)
/-- an instance method's call -/
theorem own_callV (X : Stand p l e R s m args below meth c T locs cells slots) (hx : p.tables.exec = Jvm.exec) (hZ : Z.Warmed39 s.vm) {own C : String} {index : Nat} {y : MethodName} {bytes : ByteArray} {mx : Nat} {ret : Option FieldType} {rm : Room} {Qc : Option Value → Heap → List Loc → Prop}
    (hown : s.vm.findClass own = some m.cls) (w1 : (Jvm.Cond.methodLink own index y).before a0 Z = true) (w5 : (Jvm.Cond.declares y).before a0 Z = true) (w6 : (Jvm.Cond.selects C y y).before a0 Z = true) (w2 : (Jvm.Cond.instanceMethod y).before a0 Z = true) (w3 : (Jvm.Cond.initialized y.cls).before a0 Z = true) (w4 : (Jvm.Cond.code y bytes mx ret).before a0 Z = true) (hy : y.cls ≠ "java/lang/invoke/MethodHandle" ∧ y.cls ≠ "java/lang/invoke/VarHandle")
    (eT : T.heap = h) {a : Addr} (E : Exa Z h a C) (argsL rest : List Value) (hM : own_C l Z y bytes mx ret [] rm (.ref a :: argsL).toArray h Qc) (W : Nat) (hf : rm.frames + 1 ≤ R.frames) (hlo : W + (mx + 11) + rm.locals ≤ R.locals) (hW : (rest.map fun v => v.category).sum ≤ W) (hc : cells + rm.cells ≤ R.cells) (hs : slots + rm.slots ≤ R.slots)
    {pc : Nat} {Ls : Array Slot} {S : List Value} (hsize : Ls.size = c.maxLocals) (hlen : ∀ sig, parseMethodDescriptor y.desc = some sig → argsL.length = sig.parameters.length) (hS : S = argsL.reverse ++ .ref a :: rest) (hd : decode c.code pc = .ok (.invokevirtual index, 3))
    (k : ∀ (T' : State) (v : Option Value) (L : List Loc), Stand p l e R s m args below meth c T' (locs ++ L) (cells + rm.cells) (slots + rm.slots) → Qc v T'.heap L → own_G p e below s Q kc ks T' (mkF m (pc + 3) Ls (v.toList ++ rest))) :
    own_G p e below s Q kc ks T (mkF m pc Ls S) := by
  obtain ⟨cq, kq, qa, qb, qc⟩ := isOf hZ eT E
  obtain ⟨v, _, ⟨T', L', k', n'⟩, -, X', ⟨L, hQ, q1, q2, q3⟩, st⟩ := X.virtualBack hx (y := y) (z := y) hown (mvT hZ w1) (mvT hZ w5) (notFace_of_selects (args := #[]) (mvT hZ w6)) (mvT hZ w6) (mvT hZ w2) hy (backOf (W := W) hM hZ w4 w3 hf hlo) qa qc (g := mkF m pc Ls S) rfl hsize (Steps.refl _) (argsL := argsL) (rest := rest) hlen hS (by show 2 * 0 + _ ≤ _; omega) hd (fun _ _ => ⟨rfl, eT, hc, hs⟩)
  dsimp only [Pt.U, Pt.locs, Pt.cells, Pt.slots] at X' q1 q2 q3 st hQ
  subst q1 q2 q3
  exact own_go _ (fun t kt => st.trans kt) (k T' v L X' hQ)
end OwnKit
theorem own_pd0 : parseMethodDescriptor "(III)Z" = some ⟨[.int, .int, .int], some .boolean⟩ := by decide +kernel
def own_cont (x : Int32) (y : Int32) (z : Int32) : Int32 := (if y = (1 : Int32) then (if x = (224 : Int32) then (if z < (160 : Int32) then (0 : Int32) else (if (191 : Int32) < z then (0 : Int32) else (1 : Int32))) else (if x = (237 : Int32) then (if z < (128 : Int32) then (0 : Int32) else (if (159 : Int32) < z then (0 : Int32) else (1 : Int32))) else (if x = (240 : Int32) then (if z < (144 : Int32) then (0 : Int32) else (if (191 : Int32) < z then (0 : Int32) else (1 : Int32))) else (if x = (244 : Int32) then (if z < (128 : Int32) then (0 : Int32) else (if (143 : Int32) < z then (0 : Int32) else (1 : Int32))) else (if z < (128 : Int32) then (0 : Int32) else (if (191 : Int32) < z then (0 : Int32) else (1 : Int32))))))) else (if z < (128 : Int32) then (0 : Int32) else (if (191 : Int32) < z then (0 : Int32) else (1 : Int32))))
theorem own_d1_0 : decode prog_79_method_3_code 0 = .ok (.sipush 128, 3) := by decide +kernel
theorem own_d1_3 : decode prog_79_method_3_code 3 = .ok (.istore_n 3, 1) := by decide +kernel
theorem own_d1_4 : decode prog_79_method_3_code 4 = .ok (.sipush 191, 3) := by decide +kernel
theorem own_d1_7 : decode prog_79_method_3_code 7 = .ok (.istore 4, 2) := by decide +kernel
theorem own_d1_9 : decode prog_79_method_3_code 9 = .ok (.iload_n 1, 1) := by decide +kernel
theorem own_d1_10 : decode prog_79_method_3_code 10 = .ok (.iconst 1, 1) := by decide +kernel
theorem own_d1_11 : decode prog_79_method_3_code 11 = .ok (.if_icmp .ne 75, 3) := by decide +kernel
theorem own_d1_14 : decode prog_79_method_3_code 14 = .ok (.iload_n 0, 1) := by decide +kernel
theorem own_d1_15 : decode prog_79_method_3_code 15 = .ok (.lookupswitch 71 #[(224, 41), (237, 48), (240, 56), (244, 63)], 41) := by decide +kernel
theorem own_d1_56 : decode prog_79_method_3_code 56 = .ok (.sipush 160, 3) := by decide +kernel
theorem own_d1_59 : decode prog_79_method_3_code 59 = .ok (.istore_n 3, 1) := by decide +kernel
theorem own_d1_60 : decode prog_79_method_3_code 60 = .ok (.goto 26, 3) := by decide +kernel
theorem own_d1_63 : decode prog_79_method_3_code 63 = .ok (.sipush 159, 3) := by decide +kernel
theorem own_d1_66 : decode prog_79_method_3_code 66 = .ok (.istore 4, 2) := by decide +kernel
theorem own_d1_68 : decode prog_79_method_3_code 68 = .ok (.goto 18, 3) := by decide +kernel
theorem own_d1_71 : decode prog_79_method_3_code 71 = .ok (.sipush 144, 3) := by decide +kernel
theorem own_d1_74 : decode prog_79_method_3_code 74 = .ok (.istore_n 3, 1) := by decide +kernel
theorem own_d1_75 : decode prog_79_method_3_code 75 = .ok (.goto 11, 3) := by decide +kernel
theorem own_d1_78 : decode prog_79_method_3_code 78 = .ok (.sipush 143, 3) := by decide +kernel
theorem own_d1_81 : decode prog_79_method_3_code 81 = .ok (.istore 4, 2) := by decide +kernel
theorem own_d1_83 : decode prog_79_method_3_code 83 = .ok (.goto 3, 3) := by decide +kernel
theorem own_d1_86 : decode prog_79_method_3_code 86 = .ok (.iload_n 2, 1) := by decide +kernel
theorem own_d1_87 : decode prog_79_method_3_code 87 = .ok (.iload_n 3, 1) := by decide +kernel
theorem own_d1_88 : decode prog_79_method_3_code 88 = .ok (.if_icmp .lt 13, 3) := by decide +kernel
theorem own_d1_91 : decode prog_79_method_3_code 91 = .ok (.iload_n 2, 1) := by decide +kernel
theorem own_d1_92 : decode prog_79_method_3_code 92 = .ok (.iload 4, 2) := by decide +kernel
theorem own_d1_94 : decode prog_79_method_3_code 94 = .ok (.if_icmp .gt 7, 3) := by decide +kernel
theorem own_d1_97 : decode prog_79_method_3_code 97 = .ok (.iconst 1, 1) := by decide +kernel
theorem own_d1_98 : decode prog_79_method_3_code 98 = .ok (.goto 4, 3) := by decide +kernel
theorem own_d1_101 : decode prog_79_method_3_code 101 = .ok (.iconst 0, 1) := by decide +kernel
theorem own_d1_102 : decode prog_79_method_3_code 102 = .ok (.ireturn, 1) := by decide +kernel
theorem own_pn_own_rm1 : plainFor (⟨"com/example/vocab_scan/vocabscan/Utf8", "continues", "(III)Z"⟩ : MethodName) = true := plainFor_of_name (show plainName "com/example/vocab_scan/vocabscan/Utf8" = true by first | (simp [plainName, overriddenIn]; done) | decide +kernel)
set_option maxRecDepth 65536 in
set_option maxHeartbeats 40000000 in
theorem own_rm1 (l : Launch) (Z : State) (a0 : Array Value) (hw : ∀ d ∈ tables_1, d.before a0 Z = true) (ws : List Jvm.Cond) (h0 : Heap) (x y z : Int32)  :
    own_C l Z (⟨"com/example/vocab_scan/vocabscan/Utf8", "continues", "(III)Z"⟩ : MethodName) prog_79_method_3_code 5 (some .boolean) ws ({ frames := 0, cells := 0, slots := 0, locals := 0 } : Room) #[(.int x), (.int y), (.int z)] h0 (own_P (.int (own_cont x y z)) h0) := by
  refine own_met own_pn_own_rm1 #[iv x, iv y, iv z, .unset, .unset] (fun m => by first | (simp [entryFrame, mkF, argsToLocals, Value.category]; done) | rfl) ?_
  intro p e s m below meth c s₁ hx hby hml hown hret hlk hZ hnm X0 e0
  refine own_go (mkF m 3 #[iv x, iv y, iv z, .unset, .unset] [(.int (128 : Int32))]) (fun t' k => XS.sipush X0.here hx rfl (hb hby own_d1_0) k) ?_
  refine own_go (mkF m 4 #[iv x, iv y, iv z, iv (128 : Int32), .unset] []) (fun t' k => XS.istoreN X0.here hx rfl (hb hby own_d1_3) rfl (l' := #[iv x, iv y, iv z, iv (128 : Int32), .unset]) rfl k) ?_
  refine own_go (mkF m 7 #[iv x, iv y, iv z, iv (128 : Int32), .unset] [(.int (191 : Int32))]) (fun t' k => XS.sipush X0.here hx rfl (hb hby own_d1_4) k) ?_
  refine own_go (mkF m 9 #[iv x, iv y, iv z, iv (128 : Int32), iv (191 : Int32)] []) (fun t' k => XS.istore X0.here hx rfl (hb hby own_d1_7) rfl (l' := #[iv x, iv y, iv z, iv (128 : Int32), iv (191 : Int32)]) rfl k) ?_
  refine own_go (mkF m 10 #[iv x, iv y, iv z, iv (128 : Int32), iv (191 : Int32)] [(.int y)]) (fun t' k => XS.iloadN X0.here hx rfl (hb hby own_d1_9) rfl  k) ?_
  refine own_go (mkF m 11 #[iv x, iv y, iv z, iv (128 : Int32), iv (191 : Int32)] [(.int (1 : Int32)), (.int y)]) (fun t' k => XS.iconst X0.here hx rfl (hb hby own_d1_10) k) ?_
  by_cases hc11 : y = (1 : Int32)
  · skip
    refine own_go (mkF m 14 #[iv x, iv y, iv z, iv (128 : Int32), iv (191 : Int32)] []) (fun t' k => XS.icmpNo X0.here hx rfl (hb hby own_d1_11) rfl (teq hc11).2 k) ?_
    refine own_go (mkF m 15 #[iv x, iv y, iv z, iv (128 : Int32), iv (191 : Int32)] [(.int x)]) (fun t' k => XS.iloadN X0.here hx rfl (hb hby own_d1_14) rfl  k) ?_
    by_cases hs15_0 : x = (224 : Int32)
    · skip
      refine own_go (mkF m 56 #[iv x, iv y, iv z, iv (128 : Int32), iv (191 : Int32)] []) (fun t' k => X0.lookupswitchHit hx (g := (mkF m 15 #[iv x, iv y, iv z, iv (128 : Int32), iv (191 : Int32)] [(.int x)])) rfl rfl (hb hby own_d1_15) (by decide) (a := 224) (off := 41) (by rw [hs15_0]; rfl) (show (0 : Int) ≤ (15 : Int) + 41 from by decide) t' k) ?_
      refine own_go (mkF m 59 #[iv x, iv y, iv z, iv (128 : Int32), iv (191 : Int32)] [(.int (160 : Int32))]) (fun t' k => XS.sipush X0.here hx rfl (hb hby own_d1_56) k) ?_
      refine own_go (mkF m 60 #[iv x, iv y, iv z, iv (160 : Int32), iv (191 : Int32)] []) (fun t' k => XS.istoreN X0.here hx rfl (hb hby own_d1_59) rfl (l' := #[iv x, iv y, iv z, iv (160 : Int32), iv (191 : Int32)]) rfl k) ?_
      refine own_go (mkF m 86 #[iv x, iv y, iv z, iv (160 : Int32), iv (191 : Int32)] []) (fun t' k => XS.goto X0.here hx rfl (pc0 := 60) (pc' := 86) rfl (hb hby own_d1_60) (by decide) (by decide) k) ?_
      refine own_go (mkF m 87 #[iv x, iv y, iv z, iv (160 : Int32), iv (191 : Int32)] [(.int z)]) (fun t' k => XS.iloadN X0.here hx rfl (hb hby own_d1_86) rfl  k) ?_
      refine own_go (mkF m 88 #[iv x, iv y, iv z, iv (160 : Int32), iv (191 : Int32)] [(.int (160 : Int32)), (.int z)]) (fun t' k => XS.iloadN X0.here hx rfl (hb hby own_d1_87) rfl  k) ?_
      by_cases hc88 : z < (160 : Int32)
      · skip
        refine own_go (mkF m 101 #[iv x, iv y, iv z, iv (160 : Int32), iv (191 : Int32)] []) (fun t' k => XS.icmpYes X0.here hx rfl (pc0 := 88) (pc' := 101) rfl (hb hby own_d1_88) rfl (tlt hc88).1 (by decide) (by decide) k) ?_
        refine own_go (mkF m 102 #[iv x, iv y, iv z, iv (160 : Int32), iv (191 : Int32)] [(.int (0 : Int32))]) (fun t' k => XS.iconst X0.here hx rfl (hb hby own_d1_101) k) ?_
        refine own_retZ X0 hx hlk hret (hb hby own_d1_102) ?_ (by decide) (by decide)
        exact ⟨congrArg (fun z => some (Value.int z)) ((show (own_cont x y z) = (0 : Int32) from ((if_pos hc11).trans ((if_pos hs15_0).trans ((if_pos hc88).trans rfl)))).trans (by decide : (0 : Int32) = ((0 : Int32) &&& 1))).symm, e0, rfl⟩
      · skip
        refine own_go (mkF m 91 #[iv x, iv y, iv z, iv (160 : Int32), iv (191 : Int32)] []) (fun t' k => XS.icmpNo X0.here hx rfl (hb hby own_d1_88) rfl (flt hc88).1 k) ?_
        refine own_go (mkF m 92 #[iv x, iv y, iv z, iv (160 : Int32), iv (191 : Int32)] [(.int z)]) (fun t' k => XS.iloadN X0.here hx rfl (hb hby own_d1_91) rfl  k) ?_
        refine own_go (mkF m 94 #[iv x, iv y, iv z, iv (160 : Int32), iv (191 : Int32)] [(.int (191 : Int32)), (.int z)]) (fun t' k => XS.iload X0.here hx rfl (hb hby own_d1_92) rfl  k) ?_
        by_cases hc94 : (191 : Int32) < z
        · skip
          refine own_go (mkF m 101 #[iv x, iv y, iv z, iv (160 : Int32), iv (191 : Int32)] []) (fun t' k => XS.icmpYes X0.here hx rfl (pc0 := 94) (pc' := 101) rfl (hb hby own_d1_94) rfl (tlt hc94).2.2.1 (by decide) (by decide) k) ?_
          refine own_go (mkF m 102 #[iv x, iv y, iv z, iv (160 : Int32), iv (191 : Int32)] [(.int (0 : Int32))]) (fun t' k => XS.iconst X0.here hx rfl (hb hby own_d1_101) k) ?_
          refine own_retZ X0 hx hlk hret (hb hby own_d1_102) ?_ (by decide) (by decide)
          exact ⟨congrArg (fun z => some (Value.int z)) ((show (own_cont x y z) = (0 : Int32) from ((if_pos hc11).trans ((if_pos hs15_0).trans ((if_neg hc88).trans ((if_pos hc94).trans rfl))))).trans (by decide : (0 : Int32) = ((0 : Int32) &&& 1))).symm, e0, rfl⟩
        · skip
          refine own_go (mkF m 97 #[iv x, iv y, iv z, iv (160 : Int32), iv (191 : Int32)] []) (fun t' k => XS.icmpNo X0.here hx rfl (hb hby own_d1_94) rfl (flt hc94).2.2.1 k) ?_
          refine own_go (mkF m 98 #[iv x, iv y, iv z, iv (160 : Int32), iv (191 : Int32)] [(.int (1 : Int32))]) (fun t' k => XS.iconst X0.here hx rfl (hb hby own_d1_97) k) ?_
          refine own_go (mkF m 102 #[iv x, iv y, iv z, iv (160 : Int32), iv (191 : Int32)] [(.int (1 : Int32))]) (fun t' k => XS.goto X0.here hx rfl (pc0 := 98) (pc' := 102) rfl (hb hby own_d1_98) (by decide) (by decide) k) ?_
          refine own_retZ X0 hx hlk hret (hb hby own_d1_102) ?_ (by decide) (by decide)
          exact ⟨congrArg (fun z => some (Value.int z)) ((show (own_cont x y z) = (1 : Int32) from ((if_pos hc11).trans ((if_pos hs15_0).trans ((if_neg hc88).trans ((if_neg hc94).trans rfl))))).trans (by decide : (1 : Int32) = ((1 : Int32) &&& 1))).symm, e0, rfl⟩
    · skip
      by_cases hs15_1 : x = (237 : Int32)
      · skip
        refine own_go (mkF m 63 #[iv x, iv y, iv z, iv (128 : Int32), iv (191 : Int32)] []) (fun t' k => X0.lookupswitchHit hx (g := (mkF m 15 #[iv x, iv y, iv z, iv (128 : Int32), iv (191 : Int32)] [(.int x)])) rfl rfl (hb hby own_d1_15) (by decide) (a := 237) (off := 48) (by rw [hs15_1]; rfl) (show (0 : Int) ≤ (15 : Int) + 48 from by decide) t' k) ?_
        refine own_go (mkF m 66 #[iv x, iv y, iv z, iv (128 : Int32), iv (191 : Int32)] [(.int (159 : Int32))]) (fun t' k => XS.sipush X0.here hx rfl (hb hby own_d1_63) k) ?_
        refine own_go (mkF m 68 #[iv x, iv y, iv z, iv (128 : Int32), iv (159 : Int32)] []) (fun t' k => XS.istore X0.here hx rfl (hb hby own_d1_66) rfl (l' := #[iv x, iv y, iv z, iv (128 : Int32), iv (159 : Int32)]) rfl k) ?_
        refine own_go (mkF m 86 #[iv x, iv y, iv z, iv (128 : Int32), iv (159 : Int32)] []) (fun t' k => XS.goto X0.here hx rfl (pc0 := 68) (pc' := 86) rfl (hb hby own_d1_68) (by decide) (by decide) k) ?_
        refine own_go (mkF m 87 #[iv x, iv y, iv z, iv (128 : Int32), iv (159 : Int32)] [(.int z)]) (fun t' k => XS.iloadN X0.here hx rfl (hb hby own_d1_86) rfl  k) ?_
        refine own_go (mkF m 88 #[iv x, iv y, iv z, iv (128 : Int32), iv (159 : Int32)] [(.int (128 : Int32)), (.int z)]) (fun t' k => XS.iloadN X0.here hx rfl (hb hby own_d1_87) rfl  k) ?_
        by_cases hc88 : z < (128 : Int32)
        · skip
          refine own_go (mkF m 101 #[iv x, iv y, iv z, iv (128 : Int32), iv (159 : Int32)] []) (fun t' k => XS.icmpYes X0.here hx rfl (pc0 := 88) (pc' := 101) rfl (hb hby own_d1_88) rfl (tlt hc88).1 (by decide) (by decide) k) ?_
          refine own_go (mkF m 102 #[iv x, iv y, iv z, iv (128 : Int32), iv (159 : Int32)] [(.int (0 : Int32))]) (fun t' k => XS.iconst X0.here hx rfl (hb hby own_d1_101) k) ?_
          refine own_retZ X0 hx hlk hret (hb hby own_d1_102) ?_ (by decide) (by decide)
          exact ⟨congrArg (fun z => some (Value.int z)) ((show (own_cont x y z) = (0 : Int32) from ((if_pos hc11).trans ((if_neg hs15_0).trans ((if_pos hs15_1).trans ((if_pos hc88).trans rfl))))).trans (by decide : (0 : Int32) = ((0 : Int32) &&& 1))).symm, e0, rfl⟩
        · skip
          refine own_go (mkF m 91 #[iv x, iv y, iv z, iv (128 : Int32), iv (159 : Int32)] []) (fun t' k => XS.icmpNo X0.here hx rfl (hb hby own_d1_88) rfl (flt hc88).1 k) ?_
          refine own_go (mkF m 92 #[iv x, iv y, iv z, iv (128 : Int32), iv (159 : Int32)] [(.int z)]) (fun t' k => XS.iloadN X0.here hx rfl (hb hby own_d1_91) rfl  k) ?_
          refine own_go (mkF m 94 #[iv x, iv y, iv z, iv (128 : Int32), iv (159 : Int32)] [(.int (159 : Int32)), (.int z)]) (fun t' k => XS.iload X0.here hx rfl (hb hby own_d1_92) rfl  k) ?_
          by_cases hc94 : (159 : Int32) < z
          · skip
            refine own_go (mkF m 101 #[iv x, iv y, iv z, iv (128 : Int32), iv (159 : Int32)] []) (fun t' k => XS.icmpYes X0.here hx rfl (pc0 := 94) (pc' := 101) rfl (hb hby own_d1_94) rfl (tlt hc94).2.2.1 (by decide) (by decide) k) ?_
            refine own_go (mkF m 102 #[iv x, iv y, iv z, iv (128 : Int32), iv (159 : Int32)] [(.int (0 : Int32))]) (fun t' k => XS.iconst X0.here hx rfl (hb hby own_d1_101) k) ?_
            refine own_retZ X0 hx hlk hret (hb hby own_d1_102) ?_ (by decide) (by decide)
            exact ⟨congrArg (fun z => some (Value.int z)) ((show (own_cont x y z) = (0 : Int32) from ((if_pos hc11).trans ((if_neg hs15_0).trans ((if_pos hs15_1).trans ((if_neg hc88).trans ((if_pos hc94).trans rfl)))))).trans (by decide : (0 : Int32) = ((0 : Int32) &&& 1))).symm, e0, rfl⟩
          · skip
            refine own_go (mkF m 97 #[iv x, iv y, iv z, iv (128 : Int32), iv (159 : Int32)] []) (fun t' k => XS.icmpNo X0.here hx rfl (hb hby own_d1_94) rfl (flt hc94).2.2.1 k) ?_
            refine own_go (mkF m 98 #[iv x, iv y, iv z, iv (128 : Int32), iv (159 : Int32)] [(.int (1 : Int32))]) (fun t' k => XS.iconst X0.here hx rfl (hb hby own_d1_97) k) ?_
            refine own_go (mkF m 102 #[iv x, iv y, iv z, iv (128 : Int32), iv (159 : Int32)] [(.int (1 : Int32))]) (fun t' k => XS.goto X0.here hx rfl (pc0 := 98) (pc' := 102) rfl (hb hby own_d1_98) (by decide) (by decide) k) ?_
            refine own_retZ X0 hx hlk hret (hb hby own_d1_102) ?_ (by decide) (by decide)
            exact ⟨congrArg (fun z => some (Value.int z)) ((show (own_cont x y z) = (1 : Int32) from ((if_pos hc11).trans ((if_neg hs15_0).trans ((if_pos hs15_1).trans ((if_neg hc88).trans ((if_neg hc94).trans rfl)))))).trans (by decide : (1 : Int32) = ((1 : Int32) &&& 1))).symm, e0, rfl⟩
      · skip
        by_cases hs15_2 : x = (240 : Int32)
        · skip
          refine own_go (mkF m 71 #[iv x, iv y, iv z, iv (128 : Int32), iv (191 : Int32)] []) (fun t' k => X0.lookupswitchHit hx (g := (mkF m 15 #[iv x, iv y, iv z, iv (128 : Int32), iv (191 : Int32)] [(.int x)])) rfl rfl (hb hby own_d1_15) (by decide) (a := 240) (off := 56) (by rw [hs15_2]; rfl) (show (0 : Int) ≤ (15 : Int) + 56 from by decide) t' k) ?_
          refine own_go (mkF m 74 #[iv x, iv y, iv z, iv (128 : Int32), iv (191 : Int32)] [(.int (144 : Int32))]) (fun t' k => XS.sipush X0.here hx rfl (hb hby own_d1_71) k) ?_
          refine own_go (mkF m 75 #[iv x, iv y, iv z, iv (144 : Int32), iv (191 : Int32)] []) (fun t' k => XS.istoreN X0.here hx rfl (hb hby own_d1_74) rfl (l' := #[iv x, iv y, iv z, iv (144 : Int32), iv (191 : Int32)]) rfl k) ?_
          refine own_go (mkF m 86 #[iv x, iv y, iv z, iv (144 : Int32), iv (191 : Int32)] []) (fun t' k => XS.goto X0.here hx rfl (pc0 := 75) (pc' := 86) rfl (hb hby own_d1_75) (by decide) (by decide) k) ?_
          refine own_go (mkF m 87 #[iv x, iv y, iv z, iv (144 : Int32), iv (191 : Int32)] [(.int z)]) (fun t' k => XS.iloadN X0.here hx rfl (hb hby own_d1_86) rfl  k) ?_
          refine own_go (mkF m 88 #[iv x, iv y, iv z, iv (144 : Int32), iv (191 : Int32)] [(.int (144 : Int32)), (.int z)]) (fun t' k => XS.iloadN X0.here hx rfl (hb hby own_d1_87) rfl  k) ?_
          by_cases hc88 : z < (144 : Int32)
          · skip
            refine own_go (mkF m 101 #[iv x, iv y, iv z, iv (144 : Int32), iv (191 : Int32)] []) (fun t' k => XS.icmpYes X0.here hx rfl (pc0 := 88) (pc' := 101) rfl (hb hby own_d1_88) rfl (tlt hc88).1 (by decide) (by decide) k) ?_
            refine own_go (mkF m 102 #[iv x, iv y, iv z, iv (144 : Int32), iv (191 : Int32)] [(.int (0 : Int32))]) (fun t' k => XS.iconst X0.here hx rfl (hb hby own_d1_101) k) ?_
            refine own_retZ X0 hx hlk hret (hb hby own_d1_102) ?_ (by decide) (by decide)
            exact ⟨congrArg (fun z => some (Value.int z)) ((show (own_cont x y z) = (0 : Int32) from ((if_pos hc11).trans ((if_neg hs15_0).trans ((if_neg hs15_1).trans ((if_pos hs15_2).trans ((if_pos hc88).trans rfl)))))).trans (by decide : (0 : Int32) = ((0 : Int32) &&& 1))).symm, e0, rfl⟩
          · skip
            refine own_go (mkF m 91 #[iv x, iv y, iv z, iv (144 : Int32), iv (191 : Int32)] []) (fun t' k => XS.icmpNo X0.here hx rfl (hb hby own_d1_88) rfl (flt hc88).1 k) ?_
            refine own_go (mkF m 92 #[iv x, iv y, iv z, iv (144 : Int32), iv (191 : Int32)] [(.int z)]) (fun t' k => XS.iloadN X0.here hx rfl (hb hby own_d1_91) rfl  k) ?_
            refine own_go (mkF m 94 #[iv x, iv y, iv z, iv (144 : Int32), iv (191 : Int32)] [(.int (191 : Int32)), (.int z)]) (fun t' k => XS.iload X0.here hx rfl (hb hby own_d1_92) rfl  k) ?_
            by_cases hc94 : (191 : Int32) < z
            · skip
              refine own_go (mkF m 101 #[iv x, iv y, iv z, iv (144 : Int32), iv (191 : Int32)] []) (fun t' k => XS.icmpYes X0.here hx rfl (pc0 := 94) (pc' := 101) rfl (hb hby own_d1_94) rfl (tlt hc94).2.2.1 (by decide) (by decide) k) ?_
              refine own_go (mkF m 102 #[iv x, iv y, iv z, iv (144 : Int32), iv (191 : Int32)] [(.int (0 : Int32))]) (fun t' k => XS.iconst X0.here hx rfl (hb hby own_d1_101) k) ?_
              refine own_retZ X0 hx hlk hret (hb hby own_d1_102) ?_ (by decide) (by decide)
              exact ⟨congrArg (fun z => some (Value.int z)) ((show (own_cont x y z) = (0 : Int32) from ((if_pos hc11).trans ((if_neg hs15_0).trans ((if_neg hs15_1).trans ((if_pos hs15_2).trans ((if_neg hc88).trans ((if_pos hc94).trans rfl))))))).trans (by decide : (0 : Int32) = ((0 : Int32) &&& 1))).symm, e0, rfl⟩
            · skip
              refine own_go (mkF m 97 #[iv x, iv y, iv z, iv (144 : Int32), iv (191 : Int32)] []) (fun t' k => XS.icmpNo X0.here hx rfl (hb hby own_d1_94) rfl (flt hc94).2.2.1 k) ?_
              refine own_go (mkF m 98 #[iv x, iv y, iv z, iv (144 : Int32), iv (191 : Int32)] [(.int (1 : Int32))]) (fun t' k => XS.iconst X0.here hx rfl (hb hby own_d1_97) k) ?_
              refine own_go (mkF m 102 #[iv x, iv y, iv z, iv (144 : Int32), iv (191 : Int32)] [(.int (1 : Int32))]) (fun t' k => XS.goto X0.here hx rfl (pc0 := 98) (pc' := 102) rfl (hb hby own_d1_98) (by decide) (by decide) k) ?_
              refine own_retZ X0 hx hlk hret (hb hby own_d1_102) ?_ (by decide) (by decide)
              exact ⟨congrArg (fun z => some (Value.int z)) ((show (own_cont x y z) = (1 : Int32) from ((if_pos hc11).trans ((if_neg hs15_0).trans ((if_neg hs15_1).trans ((if_pos hs15_2).trans ((if_neg hc88).trans ((if_neg hc94).trans rfl))))))).trans (by decide : (1 : Int32) = ((1 : Int32) &&& 1))).symm, e0, rfl⟩
        · skip
          by_cases hs15_3 : x = (244 : Int32)
          · skip
            refine own_go (mkF m 78 #[iv x, iv y, iv z, iv (128 : Int32), iv (191 : Int32)] []) (fun t' k => X0.lookupswitchHit hx (g := (mkF m 15 #[iv x, iv y, iv z, iv (128 : Int32), iv (191 : Int32)] [(.int x)])) rfl rfl (hb hby own_d1_15) (by decide) (a := 244) (off := 63) (by rw [hs15_3]; rfl) (show (0 : Int) ≤ (15 : Int) + 63 from by decide) t' k) ?_
            refine own_go (mkF m 81 #[iv x, iv y, iv z, iv (128 : Int32), iv (191 : Int32)] [(.int (143 : Int32))]) (fun t' k => XS.sipush X0.here hx rfl (hb hby own_d1_78) k) ?_
            refine own_go (mkF m 83 #[iv x, iv y, iv z, iv (128 : Int32), iv (143 : Int32)] []) (fun t' k => XS.istore X0.here hx rfl (hb hby own_d1_81) rfl (l' := #[iv x, iv y, iv z, iv (128 : Int32), iv (143 : Int32)]) rfl k) ?_
            refine own_go (mkF m 86 #[iv x, iv y, iv z, iv (128 : Int32), iv (143 : Int32)] []) (fun t' k => XS.goto X0.here hx rfl (pc0 := 83) (pc' := 86) rfl (hb hby own_d1_83) (by decide) (by decide) k) ?_
            refine own_go (mkF m 87 #[iv x, iv y, iv z, iv (128 : Int32), iv (143 : Int32)] [(.int z)]) (fun t' k => XS.iloadN X0.here hx rfl (hb hby own_d1_86) rfl  k) ?_
            refine own_go (mkF m 88 #[iv x, iv y, iv z, iv (128 : Int32), iv (143 : Int32)] [(.int (128 : Int32)), (.int z)]) (fun t' k => XS.iloadN X0.here hx rfl (hb hby own_d1_87) rfl  k) ?_
            by_cases hc88 : z < (128 : Int32)
            · skip
              refine own_go (mkF m 101 #[iv x, iv y, iv z, iv (128 : Int32), iv (143 : Int32)] []) (fun t' k => XS.icmpYes X0.here hx rfl (pc0 := 88) (pc' := 101) rfl (hb hby own_d1_88) rfl (tlt hc88).1 (by decide) (by decide) k) ?_
              refine own_go (mkF m 102 #[iv x, iv y, iv z, iv (128 : Int32), iv (143 : Int32)] [(.int (0 : Int32))]) (fun t' k => XS.iconst X0.here hx rfl (hb hby own_d1_101) k) ?_
              refine own_retZ X0 hx hlk hret (hb hby own_d1_102) ?_ (by decide) (by decide)
              exact ⟨congrArg (fun z => some (Value.int z)) ((show (own_cont x y z) = (0 : Int32) from ((if_pos hc11).trans ((if_neg hs15_0).trans ((if_neg hs15_1).trans ((if_neg hs15_2).trans ((if_pos hs15_3).trans ((if_pos hc88).trans rfl))))))).trans (by decide : (0 : Int32) = ((0 : Int32) &&& 1))).symm, e0, rfl⟩
            · skip
              refine own_go (mkF m 91 #[iv x, iv y, iv z, iv (128 : Int32), iv (143 : Int32)] []) (fun t' k => XS.icmpNo X0.here hx rfl (hb hby own_d1_88) rfl (flt hc88).1 k) ?_
              refine own_go (mkF m 92 #[iv x, iv y, iv z, iv (128 : Int32), iv (143 : Int32)] [(.int z)]) (fun t' k => XS.iloadN X0.here hx rfl (hb hby own_d1_91) rfl  k) ?_
              refine own_go (mkF m 94 #[iv x, iv y, iv z, iv (128 : Int32), iv (143 : Int32)] [(.int (143 : Int32)), (.int z)]) (fun t' k => XS.iload X0.here hx rfl (hb hby own_d1_92) rfl  k) ?_
              by_cases hc94 : (143 : Int32) < z
              · skip
                refine own_go (mkF m 101 #[iv x, iv y, iv z, iv (128 : Int32), iv (143 : Int32)] []) (fun t' k => XS.icmpYes X0.here hx rfl (pc0 := 94) (pc' := 101) rfl (hb hby own_d1_94) rfl (tlt hc94).2.2.1 (by decide) (by decide) k) ?_
                refine own_go (mkF m 102 #[iv x, iv y, iv z, iv (128 : Int32), iv (143 : Int32)] [(.int (0 : Int32))]) (fun t' k => XS.iconst X0.here hx rfl (hb hby own_d1_101) k) ?_
                refine own_retZ X0 hx hlk hret (hb hby own_d1_102) ?_ (by decide) (by decide)
                exact ⟨congrArg (fun z => some (Value.int z)) ((show (own_cont x y z) = (0 : Int32) from ((if_pos hc11).trans ((if_neg hs15_0).trans ((if_neg hs15_1).trans ((if_neg hs15_2).trans ((if_pos hs15_3).trans ((if_neg hc88).trans ((if_pos hc94).trans rfl)))))))).trans (by decide : (0 : Int32) = ((0 : Int32) &&& 1))).symm, e0, rfl⟩
              · skip
                refine own_go (mkF m 97 #[iv x, iv y, iv z, iv (128 : Int32), iv (143 : Int32)] []) (fun t' k => XS.icmpNo X0.here hx rfl (hb hby own_d1_94) rfl (flt hc94).2.2.1 k) ?_
                refine own_go (mkF m 98 #[iv x, iv y, iv z, iv (128 : Int32), iv (143 : Int32)] [(.int (1 : Int32))]) (fun t' k => XS.iconst X0.here hx rfl (hb hby own_d1_97) k) ?_
                refine own_go (mkF m 102 #[iv x, iv y, iv z, iv (128 : Int32), iv (143 : Int32)] [(.int (1 : Int32))]) (fun t' k => XS.goto X0.here hx rfl (pc0 := 98) (pc' := 102) rfl (hb hby own_d1_98) (by decide) (by decide) k) ?_
                refine own_retZ X0 hx hlk hret (hb hby own_d1_102) ?_ (by decide) (by decide)
                exact ⟨congrArg (fun z => some (Value.int z)) ((show (own_cont x y z) = (1 : Int32) from ((if_pos hc11).trans ((if_neg hs15_0).trans ((if_neg hs15_1).trans ((if_neg hs15_2).trans ((if_pos hs15_3).trans ((if_neg hc88).trans ((if_neg hc94).trans rfl)))))))).trans (by decide : (1 : Int32) = ((1 : Int32) &&& 1))).symm, e0, rfl⟩
          · skip
            refine own_go (mkF m 86 #[iv x, iv y, iv z, iv (128 : Int32), iv (191 : Int32)] []) (fun t' k => X0.lookupswitchMiss hx (g := (mkF m 15 #[iv x, iv y, iv z, iv (128 : Int32), iv (191 : Int32)] [(.int x)])) rfl rfl (hb hby own_d1_15) (by decide) (find_miss (fun p hp => by simp only [List.mem_cons, List.not_mem_nil, or_false] at hp; rcases hp with rfl | rfl | rfl | rfl; exact fun q => hs15_0 (Int32.toInt_inj.mp q.symm); exact fun q => hs15_1 (Int32.toInt_inj.mp q.symm); exact fun q => hs15_2 (Int32.toInt_inj.mp q.symm); exact fun q => hs15_3 (Int32.toInt_inj.mp q.symm))) (show (0 : Int) ≤ (15 : Int) + 71 from by decide) t' k) ?_
            refine own_go (mkF m 87 #[iv x, iv y, iv z, iv (128 : Int32), iv (191 : Int32)] [(.int z)]) (fun t' k => XS.iloadN X0.here hx rfl (hb hby own_d1_86) rfl  k) ?_
            refine own_go (mkF m 88 #[iv x, iv y, iv z, iv (128 : Int32), iv (191 : Int32)] [(.int (128 : Int32)), (.int z)]) (fun t' k => XS.iloadN X0.here hx rfl (hb hby own_d1_87) rfl  k) ?_
            by_cases hc88 : z < (128 : Int32)
            · skip
              refine own_go (mkF m 101 #[iv x, iv y, iv z, iv (128 : Int32), iv (191 : Int32)] []) (fun t' k => XS.icmpYes X0.here hx rfl (pc0 := 88) (pc' := 101) rfl (hb hby own_d1_88) rfl (tlt hc88).1 (by decide) (by decide) k) ?_
              refine own_go (mkF m 102 #[iv x, iv y, iv z, iv (128 : Int32), iv (191 : Int32)] [(.int (0 : Int32))]) (fun t' k => XS.iconst X0.here hx rfl (hb hby own_d1_101) k) ?_
              refine own_retZ X0 hx hlk hret (hb hby own_d1_102) ?_ (by decide) (by decide)
              exact ⟨congrArg (fun z => some (Value.int z)) ((show (own_cont x y z) = (0 : Int32) from ((if_pos hc11).trans ((if_neg hs15_0).trans ((if_neg hs15_1).trans ((if_neg hs15_2).trans ((if_neg hs15_3).trans ((if_pos hc88).trans rfl))))))).trans (by decide : (0 : Int32) = ((0 : Int32) &&& 1))).symm, e0, rfl⟩
            · skip
              refine own_go (mkF m 91 #[iv x, iv y, iv z, iv (128 : Int32), iv (191 : Int32)] []) (fun t' k => XS.icmpNo X0.here hx rfl (hb hby own_d1_88) rfl (flt hc88).1 k) ?_
              refine own_go (mkF m 92 #[iv x, iv y, iv z, iv (128 : Int32), iv (191 : Int32)] [(.int z)]) (fun t' k => XS.iloadN X0.here hx rfl (hb hby own_d1_91) rfl  k) ?_
              refine own_go (mkF m 94 #[iv x, iv y, iv z, iv (128 : Int32), iv (191 : Int32)] [(.int (191 : Int32)), (.int z)]) (fun t' k => XS.iload X0.here hx rfl (hb hby own_d1_92) rfl  k) ?_
              by_cases hc94 : (191 : Int32) < z
              · skip
                refine own_go (mkF m 101 #[iv x, iv y, iv z, iv (128 : Int32), iv (191 : Int32)] []) (fun t' k => XS.icmpYes X0.here hx rfl (pc0 := 94) (pc' := 101) rfl (hb hby own_d1_94) rfl (tlt hc94).2.2.1 (by decide) (by decide) k) ?_
                refine own_go (mkF m 102 #[iv x, iv y, iv z, iv (128 : Int32), iv (191 : Int32)] [(.int (0 : Int32))]) (fun t' k => XS.iconst X0.here hx rfl (hb hby own_d1_101) k) ?_
                refine own_retZ X0 hx hlk hret (hb hby own_d1_102) ?_ (by decide) (by decide)
                exact ⟨congrArg (fun z => some (Value.int z)) ((show (own_cont x y z) = (0 : Int32) from ((if_pos hc11).trans ((if_neg hs15_0).trans ((if_neg hs15_1).trans ((if_neg hs15_2).trans ((if_neg hs15_3).trans ((if_neg hc88).trans ((if_pos hc94).trans rfl)))))))).trans (by decide : (0 : Int32) = ((0 : Int32) &&& 1))).symm, e0, rfl⟩
              · skip
                refine own_go (mkF m 97 #[iv x, iv y, iv z, iv (128 : Int32), iv (191 : Int32)] []) (fun t' k => XS.icmpNo X0.here hx rfl (hb hby own_d1_94) rfl (flt hc94).2.2.1 k) ?_
                refine own_go (mkF m 98 #[iv x, iv y, iv z, iv (128 : Int32), iv (191 : Int32)] [(.int (1 : Int32))]) (fun t' k => XS.iconst X0.here hx rfl (hb hby own_d1_97) k) ?_
                refine own_go (mkF m 102 #[iv x, iv y, iv z, iv (128 : Int32), iv (191 : Int32)] [(.int (1 : Int32))]) (fun t' k => XS.goto X0.here hx rfl (pc0 := 98) (pc' := 102) rfl (hb hby own_d1_98) (by decide) (by decide) k) ?_
                refine own_retZ X0 hx hlk hret (hb hby own_d1_102) ?_ (by decide) (by decide)
                exact ⟨congrArg (fun z => some (Value.int z)) ((show (own_cont x y z) = (1 : Int32) from ((if_pos hc11).trans ((if_neg hs15_0).trans ((if_neg hs15_1).trans ((if_neg hs15_2).trans ((if_neg hs15_3).trans ((if_neg hc88).trans ((if_neg hc94).trans rfl)))))))).trans (by decide : (1 : Int32) = ((1 : Int32) &&& 1))).symm, e0, rfl⟩
  · skip
    refine own_go (mkF m 86 #[iv x, iv y, iv z, iv (128 : Int32), iv (191 : Int32)] []) (fun t' k => XS.icmpYes X0.here hx rfl (pc0 := 11) (pc' := 86) rfl (hb hby own_d1_11) rfl (feq hc11).2 (by decide) (by decide) k) ?_
    refine own_go (mkF m 87 #[iv x, iv y, iv z, iv (128 : Int32), iv (191 : Int32)] [(.int z)]) (fun t' k => XS.iloadN X0.here hx rfl (hb hby own_d1_86) rfl  k) ?_
    refine own_go (mkF m 88 #[iv x, iv y, iv z, iv (128 : Int32), iv (191 : Int32)] [(.int (128 : Int32)), (.int z)]) (fun t' k => XS.iloadN X0.here hx rfl (hb hby own_d1_87) rfl  k) ?_
    by_cases hc88 : z < (128 : Int32)
    · skip
      refine own_go (mkF m 101 #[iv x, iv y, iv z, iv (128 : Int32), iv (191 : Int32)] []) (fun t' k => XS.icmpYes X0.here hx rfl (pc0 := 88) (pc' := 101) rfl (hb hby own_d1_88) rfl (tlt hc88).1 (by decide) (by decide) k) ?_
      refine own_go (mkF m 102 #[iv x, iv y, iv z, iv (128 : Int32), iv (191 : Int32)] [(.int (0 : Int32))]) (fun t' k => XS.iconst X0.here hx rfl (hb hby own_d1_101) k) ?_
      refine own_retZ X0 hx hlk hret (hb hby own_d1_102) ?_ (by decide) (by decide)
      exact ⟨congrArg (fun z => some (Value.int z)) ((show (own_cont x y z) = (0 : Int32) from ((if_neg hc11).trans ((if_pos hc88).trans rfl))).trans (by decide : (0 : Int32) = ((0 : Int32) &&& 1))).symm, e0, rfl⟩
    · skip
      refine own_go (mkF m 91 #[iv x, iv y, iv z, iv (128 : Int32), iv (191 : Int32)] []) (fun t' k => XS.icmpNo X0.here hx rfl (hb hby own_d1_88) rfl (flt hc88).1 k) ?_
      refine own_go (mkF m 92 #[iv x, iv y, iv z, iv (128 : Int32), iv (191 : Int32)] [(.int z)]) (fun t' k => XS.iloadN X0.here hx rfl (hb hby own_d1_91) rfl  k) ?_
      refine own_go (mkF m 94 #[iv x, iv y, iv z, iv (128 : Int32), iv (191 : Int32)] [(.int (191 : Int32)), (.int z)]) (fun t' k => XS.iload X0.here hx rfl (hb hby own_d1_92) rfl  k) ?_
      by_cases hc94 : (191 : Int32) < z
      · skip
        refine own_go (mkF m 101 #[iv x, iv y, iv z, iv (128 : Int32), iv (191 : Int32)] []) (fun t' k => XS.icmpYes X0.here hx rfl (pc0 := 94) (pc' := 101) rfl (hb hby own_d1_94) rfl (tlt hc94).2.2.1 (by decide) (by decide) k) ?_
        refine own_go (mkF m 102 #[iv x, iv y, iv z, iv (128 : Int32), iv (191 : Int32)] [(.int (0 : Int32))]) (fun t' k => XS.iconst X0.here hx rfl (hb hby own_d1_101) k) ?_
        refine own_retZ X0 hx hlk hret (hb hby own_d1_102) ?_ (by decide) (by decide)
        exact ⟨congrArg (fun z => some (Value.int z)) ((show (own_cont x y z) = (0 : Int32) from ((if_neg hc11).trans ((if_neg hc88).trans ((if_pos hc94).trans rfl)))).trans (by decide : (0 : Int32) = ((0 : Int32) &&& 1))).symm, e0, rfl⟩
      · skip
        refine own_go (mkF m 97 #[iv x, iv y, iv z, iv (128 : Int32), iv (191 : Int32)] []) (fun t' k => XS.icmpNo X0.here hx rfl (hb hby own_d1_94) rfl (flt hc94).2.2.1 k) ?_
        refine own_go (mkF m 98 #[iv x, iv y, iv z, iv (128 : Int32), iv (191 : Int32)] [(.int (1 : Int32))]) (fun t' k => XS.iconst X0.here hx rfl (hb hby own_d1_97) k) ?_
        refine own_go (mkF m 102 #[iv x, iv y, iv z, iv (128 : Int32), iv (191 : Int32)] [(.int (1 : Int32))]) (fun t' k => XS.goto X0.here hx rfl (pc0 := 98) (pc' := 102) rfl (hb hby own_d1_98) (by decide) (by decide) k) ?_
        refine own_retZ X0 hx hlk hret (hb hby own_d1_102) ?_ (by decide) (by decide)
        exact ⟨congrArg (fun z => some (Value.int z)) ((show (own_cont x y z) = (1 : Int32) from ((if_neg hc11).trans ((if_neg hc88).trans ((if_neg hc94).trans rfl)))).trans (by decide : (1 : Int32) = ((1 : Int32) &&& 1))).symm, e0, rfl⟩

def own_expd (x : Int32) (y : Int32) (z : Int32) : Int32 := (if z < (128 : Int32) then (0 : Int32) else (if (191 : Int32) < z then (0 : Int32) else (if y = (1 : Int32) then (if x < (224 : Int32) then (if x < (240 : Int32) then (1 : Int32) else (if (244 : Int32) < x then (1 : Int32) else (if (((x &&& (7 : Int32)) <<< ((18 : Int32) &&& 31)) ||| ((z &&& (63 : Int32)) <<< ((12 : Int32) &&& 31))) < (65536 : Int32) then (0 : Int32) else (if (1114111 : Int32) < (((x &&& (7 : Int32)) <<< ((18 : Int32) &&& 31)) ||| ((z &&& (63 : Int32)) <<< ((12 : Int32) &&& 31))) then (0 : Int32) else (1 : Int32))))) else (if (239 : Int32) < x then (if x < (240 : Int32) then (1 : Int32) else (if (244 : Int32) < x then (1 : Int32) else (if (((x &&& (7 : Int32)) <<< ((18 : Int32) &&& 31)) ||| ((z &&& (63 : Int32)) <<< ((12 : Int32) &&& 31))) < (65536 : Int32) then (0 : Int32) else (if (1114111 : Int32) < (((x &&& (7 : Int32)) <<< ((18 : Int32) &&& 31)) ||| ((z &&& (63 : Int32)) <<< ((12 : Int32) &&& 31))) then (0 : Int32) else (1 : Int32))))) else (if (((x &&& (15 : Int32)) <<< ((12 : Int32) &&& 31)) ||| ((z &&& (63 : Int32)) <<< ((6 : Int32) &&& 31))) < (2048 : Int32) then (if (((x &&& (15 : Int32)) <<< ((12 : Int32) &&& 31)) ||| ((z &&& (63 : Int32)) <<< ((6 : Int32) &&& 31))) < (55296 : Int32) then (0 : Int32) else (if (57343 : Int32) < (((x &&& (15 : Int32)) <<< ((12 : Int32) &&& 31)) ||| ((z &&& (63 : Int32)) <<< ((6 : Int32) &&& 31))) then (0 : Int32) else (0 : Int32))) else (if (((x &&& (15 : Int32)) <<< ((12 : Int32) &&& 31)) ||| ((z &&& (63 : Int32)) <<< ((6 : Int32) &&& 31))) < (55296 : Int32) then (1 : Int32) else (if (57343 : Int32) < (((x &&& (15 : Int32)) <<< ((12 : Int32) &&& 31)) ||| ((z &&& (63 : Int32)) <<< ((6 : Int32) &&& 31))) then (1 : Int32) else (0 : Int32)))))) else (1 : Int32))))
theorem own_d2_0 : decode method_2_code 0 = .ok (.iload_n 2, 1) := by decide +kernel
theorem own_d2_1 : decode method_2_code 1 = .ok (.sipush 128, 3) := by decide +kernel
theorem own_d2_4 : decode method_2_code 4 = .ok (.if_icmp .lt 14, 3) := by decide +kernel
theorem own_d2_7 : decode method_2_code 7 = .ok (.iload_n 2, 1) := by decide +kernel
theorem own_d2_8 : decode method_2_code 8 = .ok (.sipush 191, 3) := by decide +kernel
theorem own_d2_11 : decode method_2_code 11 = .ok (.if_icmp .gt 7, 3) := by decide +kernel
theorem own_d2_14 : decode method_2_code 14 = .ok (.iconst 1, 1) := by decide +kernel
theorem own_d2_15 : decode method_2_code 15 = .ok (.goto 4, 3) := by decide +kernel
theorem own_d2_18 : decode method_2_code 18 = .ok (.iconst 0, 1) := by decide +kernel
theorem own_d2_19 : decode method_2_code 19 = .ok (.istore_n 3, 1) := by decide +kernel
theorem own_d2_20 : decode method_2_code 20 = .ok (.iload_n 3, 1) := by decide +kernel
theorem own_d2_21 : decode method_2_code 21 = .ok (.ifCond .ne 5, 3) := by decide +kernel
theorem own_d2_24 : decode method_2_code 24 = .ok (.iconst 0, 1) := by decide +kernel
theorem own_d2_25 : decode method_2_code 25 = .ok (.ireturn, 1) := by decide +kernel
theorem own_d2_26 : decode method_2_code 26 = .ok (.iload_n 1, 1) := by decide +kernel
theorem own_d2_27 : decode method_2_code 27 = .ok (.iconst 1, 1) := by decide +kernel
theorem own_d2_28 : decode method_2_code 28 = .ok (.if_icmp .eq 5, 3) := by decide +kernel
theorem own_d2_31 : decode method_2_code 31 = .ok (.iconst 1, 1) := by decide +kernel
theorem own_d2_32 : decode method_2_code 32 = .ok (.ireturn, 1) := by decide +kernel
theorem own_d2_33 : decode method_2_code 33 = .ok (.iload_n 0, 1) := by decide +kernel
theorem own_d2_34 : decode method_2_code 34 = .ok (.sipush 224, 3) := by decide +kernel
theorem own_d2_37 : decode method_2_code 37 = .ok (.if_icmp .lt 79, 3) := by decide +kernel
theorem own_d2_40 : decode method_2_code 40 = .ok (.iload_n 0, 1) := by decide +kernel
theorem own_d2_41 : decode method_2_code 41 = .ok (.sipush 239, 3) := by decide +kernel
theorem own_d2_44 : decode method_2_code 44 = .ok (.if_icmp .gt 72, 3) := by decide +kernel
theorem own_d2_47 : decode method_2_code 47 = .ok (.iload_n 0, 1) := by decide +kernel
theorem own_d2_48 : decode method_2_code 48 = .ok (.bipush 15, 2) := by decide +kernel
theorem own_d2_50 : decode method_2_code 50 = .ok (.iand, 1) := by decide +kernel
theorem own_d2_51 : decode method_2_code 51 = .ok (.bipush 12, 2) := by decide +kernel
theorem own_d2_53 : decode method_2_code 53 = .ok (.ishl, 1) := by decide +kernel
theorem own_d2_54 : decode method_2_code 54 = .ok (.iload_n 2, 1) := by decide +kernel
theorem own_d2_55 : decode method_2_code 55 = .ok (.bipush 63, 2) := by decide +kernel
theorem own_d2_57 : decode method_2_code 57 = .ok (.iand, 1) := by decide +kernel
theorem own_d2_58 : decode method_2_code 58 = .ok (.bipush 6, 2) := by decide +kernel
theorem own_d2_60 : decode method_2_code 60 = .ok (.ishl, 1) := by decide +kernel
theorem own_d2_61 : decode method_2_code 61 = .ok (.ior, 1) := by decide +kernel
theorem own_d2_62 : decode method_2_code 62 = .ok (.istore 4, 2) := by decide +kernel
theorem own_d2_64 : decode method_2_code 64 = .ok (.iload 4, 2) := by decide +kernel
theorem own_d2_66 : decode method_2_code 66 = .ok (.sipush 2048, 3) := by decide +kernel
theorem own_d2_69 : decode method_2_code 69 = .ok (.if_icmp .ge 7, 3) := by decide +kernel
theorem own_d2_72 : decode method_2_code 72 = .ok (.iconst 1, 1) := by decide +kernel
theorem own_d2_73 : decode method_2_code 73 = .ok (.goto 4, 3) := by decide +kernel
theorem own_d2_76 : decode method_2_code 76 = .ok (.iconst 0, 1) := by decide +kernel
theorem own_d2_77 : decode method_2_code 77 = .ok (.istore 5, 2) := by decide +kernel
theorem own_d2_79 : decode method_2_code 79 = .ok (.iload 4, 2) := by decide +kernel
theorem own_d2_81 : decode method_2_code 81 = .ok (.ldc 7, 2) := by decide +kernel
theorem own_d2_83 : decode method_2_code 83 = .ok (.if_icmp .lt 14, 3) := by decide +kernel
theorem own_d2_86 : decode method_2_code 86 = .ok (.iload 4, 2) := by decide +kernel
theorem own_d2_88 : decode method_2_code 88 = .ok (.ldc 8, 2) := by decide +kernel
theorem own_d2_90 : decode method_2_code 90 = .ok (.if_icmp .gt 7, 3) := by decide +kernel
theorem own_d2_93 : decode method_2_code 93 = .ok (.iconst 1, 1) := by decide +kernel
theorem own_d2_94 : decode method_2_code 94 = .ok (.goto 4, 3) := by decide +kernel
theorem own_d2_97 : decode method_2_code 97 = .ok (.iconst 0, 1) := by decide +kernel
theorem own_d2_98 : decode method_2_code 98 = .ok (.istore 6, 2) := by decide +kernel
theorem own_d2_100 : decode method_2_code 100 = .ok (.iload 5, 2) := by decide +kernel
theorem own_d2_102 : decode method_2_code 102 = .ok (.ifCond .ne 12, 3) := by decide +kernel
theorem own_d2_105 : decode method_2_code 105 = .ok (.iload 6, 2) := by decide +kernel
theorem own_d2_107 : decode method_2_code 107 = .ok (.ifCond .ne 7, 3) := by decide +kernel
theorem own_d2_110 : decode method_2_code 110 = .ok (.iconst 1, 1) := by decide +kernel
theorem own_d2_111 : decode method_2_code 111 = .ok (.goto 4, 3) := by decide +kernel
theorem own_d2_114 : decode method_2_code 114 = .ok (.iconst 0, 1) := by decide +kernel
theorem own_d2_115 : decode method_2_code 115 = .ok (.ireturn, 1) := by decide +kernel
theorem own_d2_116 : decode method_2_code 116 = .ok (.iload_n 0, 1) := by decide +kernel
theorem own_d2_117 : decode method_2_code 117 = .ok (.sipush 240, 3) := by decide +kernel
theorem own_d2_120 : decode method_2_code 120 = .ok (.if_icmp .lt 47, 3) := by decide +kernel
theorem own_d2_123 : decode method_2_code 123 = .ok (.iload_n 0, 1) := by decide +kernel
theorem own_d2_124 : decode method_2_code 124 = .ok (.sipush 244, 3) := by decide +kernel
theorem own_d2_127 : decode method_2_code 127 = .ok (.if_icmp .gt 40, 3) := by decide +kernel
theorem own_d2_130 : decode method_2_code 130 = .ok (.iload_n 0, 1) := by decide +kernel
theorem own_d2_131 : decode method_2_code 131 = .ok (.bipush 7, 2) := by decide +kernel
theorem own_d2_133 : decode method_2_code 133 = .ok (.iand, 1) := by decide +kernel
theorem own_d2_134 : decode method_2_code 134 = .ok (.bipush 18, 2) := by decide +kernel
theorem own_d2_136 : decode method_2_code 136 = .ok (.ishl, 1) := by decide +kernel
theorem own_d2_137 : decode method_2_code 137 = .ok (.iload_n 2, 1) := by decide +kernel
theorem own_d2_138 : decode method_2_code 138 = .ok (.bipush 63, 2) := by decide +kernel
theorem own_d2_140 : decode method_2_code 140 = .ok (.iand, 1) := by decide +kernel
theorem own_d2_141 : decode method_2_code 141 = .ok (.bipush 12, 2) := by decide +kernel
theorem own_d2_143 : decode method_2_code 143 = .ok (.ishl, 1) := by decide +kernel
theorem own_d2_144 : decode method_2_code 144 = .ok (.ior, 1) := by decide +kernel
theorem own_d2_145 : decode method_2_code 145 = .ok (.istore 4, 2) := by decide +kernel
theorem own_d2_147 : decode method_2_code 147 = .ok (.iload 4, 2) := by decide +kernel
theorem own_d2_149 : decode method_2_code 149 = .ok (.ldc 9, 2) := by decide +kernel
theorem own_d2_151 : decode method_2_code 151 = .ok (.if_icmp .lt 14, 3) := by decide +kernel
theorem own_d2_154 : decode method_2_code 154 = .ok (.iload 4, 2) := by decide +kernel
theorem own_d2_156 : decode method_2_code 156 = .ok (.ldc 10, 2) := by decide +kernel
theorem own_d2_158 : decode method_2_code 158 = .ok (.if_icmp .gt 7, 3) := by decide +kernel
theorem own_d2_161 : decode method_2_code 161 = .ok (.iconst 1, 1) := by decide +kernel
theorem own_d2_162 : decode method_2_code 162 = .ok (.goto 4, 3) := by decide +kernel
theorem own_d2_165 : decode method_2_code 165 = .ok (.iconst 0, 1) := by decide +kernel
theorem own_d2_166 : decode method_2_code 166 = .ok (.ireturn, 1) := by decide +kernel
theorem own_d2_167 : decode method_2_code 167 = .ok (.iconst 1, 1) := by decide +kernel
theorem own_d2_168 : decode method_2_code 168 = .ok (.ireturn, 1) := by decide +kernel
theorem own_pn_own_rm2 : plainFor (⟨"com/example/vocab_scan/vocabscan/Utf8ContinuesPinLaw", "expected", "(III)Z"⟩ : MethodName) = true := plainFor_of_name (show plainName "com/example/vocab_scan/vocabscan/Utf8ContinuesPinLaw" = true by first | (simp [plainName, overriddenIn]; done) | decide +kernel)
set_option maxRecDepth 65536 in
set_option maxHeartbeats 40000000 in
theorem own_rm2 (l : Launch) (Z : State) (a0 : Array Value) (hw : ∀ d ∈ tables_1, d.before a0 Z = true) (ws : List Jvm.Cond) (h0 : Heap) (x y z : Int32)  :
    own_C l Z (⟨"com/example/vocab_scan/vocabscan/Utf8ContinuesPinLaw", "expected", "(III)Z"⟩ : MethodName) method_2_code 7 (some .boolean) ws ({ frames := 0, cells := 0, slots := 0, locals := 0 } : Room) #[(.int x), (.int y), (.int z)] h0 (own_P (.int (own_expd x y z)) h0) := by
  refine own_met own_pn_own_rm2 #[iv x, iv y, iv z, .unset, .unset, .unset, .unset] (fun m => by first | (simp [entryFrame, mkF, argsToLocals, Value.category]; done) | rfl) ?_
  intro p e s m below meth c s₁ hx hby hml hown hret hlk hZ hnm X0 e0
  refine own_go (mkF m 1 #[iv x, iv y, iv z, .unset, .unset, .unset, .unset] [(.int z)]) (fun t' k => XS.iloadN X0.here hx rfl (hb hby own_d2_0) rfl  k) ?_
  refine own_go (mkF m 4 #[iv x, iv y, iv z, .unset, .unset, .unset, .unset] [(.int (128 : Int32)), (.int z)]) (fun t' k => XS.sipush X0.here hx rfl (hb hby own_d2_1) k) ?_
  by_cases hc4 : z < (128 : Int32)
  · skip
    refine own_go (mkF m 18 #[iv x, iv y, iv z, .unset, .unset, .unset, .unset] []) (fun t' k => XS.icmpYes X0.here hx rfl (pc0 := 4) (pc' := 18) rfl (hb hby own_d2_4) rfl (tlt hc4).1 (by decide) (by decide) k) ?_
    refine own_go (mkF m 19 #[iv x, iv y, iv z, .unset, .unset, .unset, .unset] [(.int (0 : Int32))]) (fun t' k => XS.iconst X0.here hx rfl (hb hby own_d2_18) k) ?_
    refine own_go (mkF m 20 #[iv x, iv y, iv z, iv (0 : Int32), .unset, .unset, .unset] []) (fun t' k => XS.istoreN X0.here hx rfl (hb hby own_d2_19) rfl (l' := #[iv x, iv y, iv z, iv (0 : Int32), .unset, .unset, .unset]) rfl k) ?_
    refine own_go (mkF m 21 #[iv x, iv y, iv z, iv (0 : Int32), .unset, .unset, .unset] [(.int (0 : Int32))]) (fun t' k => XS.iloadN X0.here hx rfl (hb hby own_d2_20) rfl  k) ?_
    refine own_go (mkF m 24 #[iv x, iv y, iv z, iv (0 : Int32), .unset, .unset, .unset] []) (fun t' k => XS.ifNo X0.here hx rfl (hb hby own_d2_21) rfl ((if0 _ _).trans (teq (by decide)).2) k) ?_
    refine own_go (mkF m 25 #[iv x, iv y, iv z, iv (0 : Int32), .unset, .unset, .unset] [(.int (0 : Int32))]) (fun t' k => XS.iconst X0.here hx rfl (hb hby own_d2_24) k) ?_
    refine own_retZ X0 hx hlk hret (hb hby own_d2_25) ?_ (by decide) (by decide)
    exact ⟨congrArg (fun z => some (Value.int z)) ((show (own_expd x y z) = (0 : Int32) from ((if_pos hc4).trans rfl)).trans (by decide : (0 : Int32) = ((0 : Int32) &&& 1))).symm, e0, rfl⟩
  · skip
    refine own_go (mkF m 7 #[iv x, iv y, iv z, .unset, .unset, .unset, .unset] []) (fun t' k => XS.icmpNo X0.here hx rfl (hb hby own_d2_4) rfl (flt hc4).1 k) ?_
    refine own_go (mkF m 8 #[iv x, iv y, iv z, .unset, .unset, .unset, .unset] [(.int z)]) (fun t' k => XS.iloadN X0.here hx rfl (hb hby own_d2_7) rfl  k) ?_
    refine own_go (mkF m 11 #[iv x, iv y, iv z, .unset, .unset, .unset, .unset] [(.int (191 : Int32)), (.int z)]) (fun t' k => XS.sipush X0.here hx rfl (hb hby own_d2_8) k) ?_
    by_cases hc11 : (191 : Int32) < z
    · skip
      refine own_go (mkF m 18 #[iv x, iv y, iv z, .unset, .unset, .unset, .unset] []) (fun t' k => XS.icmpYes X0.here hx rfl (pc0 := 11) (pc' := 18) rfl (hb hby own_d2_11) rfl (tlt hc11).2.2.1 (by decide) (by decide) k) ?_
      refine own_go (mkF m 19 #[iv x, iv y, iv z, .unset, .unset, .unset, .unset] [(.int (0 : Int32))]) (fun t' k => XS.iconst X0.here hx rfl (hb hby own_d2_18) k) ?_
      refine own_go (mkF m 20 #[iv x, iv y, iv z, iv (0 : Int32), .unset, .unset, .unset] []) (fun t' k => XS.istoreN X0.here hx rfl (hb hby own_d2_19) rfl (l' := #[iv x, iv y, iv z, iv (0 : Int32), .unset, .unset, .unset]) rfl k) ?_
      refine own_go (mkF m 21 #[iv x, iv y, iv z, iv (0 : Int32), .unset, .unset, .unset] [(.int (0 : Int32))]) (fun t' k => XS.iloadN X0.here hx rfl (hb hby own_d2_20) rfl  k) ?_
      refine own_go (mkF m 24 #[iv x, iv y, iv z, iv (0 : Int32), .unset, .unset, .unset] []) (fun t' k => XS.ifNo X0.here hx rfl (hb hby own_d2_21) rfl ((if0 _ _).trans (teq (by decide)).2) k) ?_
      refine own_go (mkF m 25 #[iv x, iv y, iv z, iv (0 : Int32), .unset, .unset, .unset] [(.int (0 : Int32))]) (fun t' k => XS.iconst X0.here hx rfl (hb hby own_d2_24) k) ?_
      refine own_retZ X0 hx hlk hret (hb hby own_d2_25) ?_ (by decide) (by decide)
      exact ⟨congrArg (fun z => some (Value.int z)) ((show (own_expd x y z) = (0 : Int32) from ((if_neg hc4).trans ((if_pos hc11).trans rfl))).trans (by decide : (0 : Int32) = ((0 : Int32) &&& 1))).symm, e0, rfl⟩
    · skip
      refine own_go (mkF m 14 #[iv x, iv y, iv z, .unset, .unset, .unset, .unset] []) (fun t' k => XS.icmpNo X0.here hx rfl (hb hby own_d2_11) rfl (flt hc11).2.2.1 k) ?_
      refine own_go (mkF m 15 #[iv x, iv y, iv z, .unset, .unset, .unset, .unset] [(.int (1 : Int32))]) (fun t' k => XS.iconst X0.here hx rfl (hb hby own_d2_14) k) ?_
      refine own_go (mkF m 19 #[iv x, iv y, iv z, .unset, .unset, .unset, .unset] [(.int (1 : Int32))]) (fun t' k => XS.goto X0.here hx rfl (pc0 := 15) (pc' := 19) rfl (hb hby own_d2_15) (by decide) (by decide) k) ?_
      refine own_go (mkF m 20 #[iv x, iv y, iv z, iv (1 : Int32), .unset, .unset, .unset] []) (fun t' k => XS.istoreN X0.here hx rfl (hb hby own_d2_19) rfl (l' := #[iv x, iv y, iv z, iv (1 : Int32), .unset, .unset, .unset]) rfl k) ?_
      refine own_go (mkF m 21 #[iv x, iv y, iv z, iv (1 : Int32), .unset, .unset, .unset] [(.int (1 : Int32))]) (fun t' k => XS.iloadN X0.here hx rfl (hb hby own_d2_20) rfl  k) ?_
      refine own_go (mkF m 26 #[iv x, iv y, iv z, iv (1 : Int32), .unset, .unset, .unset] []) (fun t' k => XS.ifYes X0.here hx rfl (pc0 := 21) (pc' := 26) rfl (hb hby own_d2_21) rfl ((if0 _ _).trans (feq (by decide)).2) (by decide) (by decide) k) ?_
      refine own_go (mkF m 27 #[iv x, iv y, iv z, iv (1 : Int32), .unset, .unset, .unset] [(.int y)]) (fun t' k => XS.iloadN X0.here hx rfl (hb hby own_d2_26) rfl  k) ?_
      refine own_go (mkF m 28 #[iv x, iv y, iv z, iv (1 : Int32), .unset, .unset, .unset] [(.int (1 : Int32)), (.int y)]) (fun t' k => XS.iconst X0.here hx rfl (hb hby own_d2_27) k) ?_
      by_cases hc28 : y = (1 : Int32)
      · skip
        refine own_go (mkF m 33 #[iv x, iv y, iv z, iv (1 : Int32), .unset, .unset, .unset] []) (fun t' k => XS.icmpYes X0.here hx rfl (pc0 := 28) (pc' := 33) rfl (hb hby own_d2_28) rfl (teq hc28).1 (by decide) (by decide) k) ?_
        refine own_go (mkF m 34 #[iv x, iv y, iv z, iv (1 : Int32), .unset, .unset, .unset] [(.int x)]) (fun t' k => XS.iloadN X0.here hx rfl (hb hby own_d2_33) rfl  k) ?_
        refine own_go (mkF m 37 #[iv x, iv y, iv z, iv (1 : Int32), .unset, .unset, .unset] [(.int (224 : Int32)), (.int x)]) (fun t' k => XS.sipush X0.here hx rfl (hb hby own_d2_34) k) ?_
        by_cases hc37 : x < (224 : Int32)
        · skip
          refine own_go (mkF m 116 #[iv x, iv y, iv z, iv (1 : Int32), .unset, .unset, .unset] []) (fun t' k => XS.icmpYes X0.here hx rfl (pc0 := 37) (pc' := 116) rfl (hb hby own_d2_37) rfl (tlt hc37).1 (by decide) (by decide) k) ?_
          refine own_go (mkF m 117 #[iv x, iv y, iv z, iv (1 : Int32), .unset, .unset, .unset] [(.int x)]) (fun t' k => XS.iloadN X0.here hx rfl (hb hby own_d2_116) rfl  k) ?_
          refine own_go (mkF m 120 #[iv x, iv y, iv z, iv (1 : Int32), .unset, .unset, .unset] [(.int (240 : Int32)), (.int x)]) (fun t' k => XS.sipush X0.here hx rfl (hb hby own_d2_117) k) ?_
          by_cases hc120 : x < (240 : Int32)
          · skip
            refine own_go (mkF m 167 #[iv x, iv y, iv z, iv (1 : Int32), .unset, .unset, .unset] []) (fun t' k => XS.icmpYes X0.here hx rfl (pc0 := 120) (pc' := 167) rfl (hb hby own_d2_120) rfl (tlt hc120).1 (by decide) (by decide) k) ?_
            refine own_go (mkF m 168 #[iv x, iv y, iv z, iv (1 : Int32), .unset, .unset, .unset] [(.int (1 : Int32))]) (fun t' k => XS.iconst X0.here hx rfl (hb hby own_d2_167) k) ?_
            refine own_retZ X0 hx hlk hret (hb hby own_d2_168) ?_ (by decide) (by decide)
            exact ⟨congrArg (fun z => some (Value.int z)) ((show (own_expd x y z) = (1 : Int32) from ((if_neg hc4).trans ((if_neg hc11).trans ((if_pos hc28).trans ((if_pos hc37).trans ((if_pos hc120).trans rfl)))))).trans (by decide : (1 : Int32) = ((1 : Int32) &&& 1))).symm, e0, rfl⟩
          · skip
            refine own_go (mkF m 123 #[iv x, iv y, iv z, iv (1 : Int32), .unset, .unset, .unset] []) (fun t' k => XS.icmpNo X0.here hx rfl (hb hby own_d2_120) rfl (flt hc120).1 k) ?_
            refine own_go (mkF m 124 #[iv x, iv y, iv z, iv (1 : Int32), .unset, .unset, .unset] [(.int x)]) (fun t' k => XS.iloadN X0.here hx rfl (hb hby own_d2_123) rfl  k) ?_
            refine own_go (mkF m 127 #[iv x, iv y, iv z, iv (1 : Int32), .unset, .unset, .unset] [(.int (244 : Int32)), (.int x)]) (fun t' k => XS.sipush X0.here hx rfl (hb hby own_d2_124) k) ?_
            by_cases hc127 : (244 : Int32) < x
            · skip
              refine own_go (mkF m 167 #[iv x, iv y, iv z, iv (1 : Int32), .unset, .unset, .unset] []) (fun t' k => XS.icmpYes X0.here hx rfl (pc0 := 127) (pc' := 167) rfl (hb hby own_d2_127) rfl (tlt hc127).2.2.1 (by decide) (by decide) k) ?_
              refine own_go (mkF m 168 #[iv x, iv y, iv z, iv (1 : Int32), .unset, .unset, .unset] [(.int (1 : Int32))]) (fun t' k => XS.iconst X0.here hx rfl (hb hby own_d2_167) k) ?_
              refine own_retZ X0 hx hlk hret (hb hby own_d2_168) ?_ (by decide) (by decide)
              exact ⟨congrArg (fun z => some (Value.int z)) ((show (own_expd x y z) = (1 : Int32) from ((if_neg hc4).trans ((if_neg hc11).trans ((if_pos hc28).trans ((if_pos hc37).trans ((if_neg hc120).trans ((if_pos hc127).trans rfl))))))).trans (by decide : (1 : Int32) = ((1 : Int32) &&& 1))).symm, e0, rfl⟩
            · skip
              refine own_go (mkF m 130 #[iv x, iv y, iv z, iv (1 : Int32), .unset, .unset, .unset] []) (fun t' k => XS.icmpNo X0.here hx rfl (hb hby own_d2_127) rfl (flt hc127).2.2.1 k) ?_
              refine own_go (mkF m 131 #[iv x, iv y, iv z, iv (1 : Int32), .unset, .unset, .unset] [(.int x)]) (fun t' k => XS.iloadN X0.here hx rfl (hb hby own_d2_130) rfl  k) ?_
              refine own_go (mkF m 133 #[iv x, iv y, iv z, iv (1 : Int32), .unset, .unset, .unset] [(.int (7 : Int32)), (.int x)]) (fun t' k => XS.bipush X0.here hx rfl (hb hby own_d2_131) k) ?_
              refine own_go (mkF m 134 #[iv x, iv y, iv z, iv (1 : Int32), .unset, .unset, .unset] [(.int (x &&& (7 : Int32)))]) (fun t' k => XS.iand X0.here hx rfl (hb hby own_d2_133) rfl k) ?_
              refine own_go (mkF m 136 #[iv x, iv y, iv z, iv (1 : Int32), .unset, .unset, .unset] [(.int (18 : Int32)), (.int (x &&& (7 : Int32)))]) (fun t' k => XS.bipush X0.here hx rfl (hb hby own_d2_134) k) ?_
              refine own_go (mkF m 137 #[iv x, iv y, iv z, iv (1 : Int32), .unset, .unset, .unset] [(.int ((x &&& (7 : Int32)) <<< ((18 : Int32) &&& 31)))]) (fun t' k => XS.ishl X0.here hx rfl (hb hby own_d2_136) rfl k) ?_
              refine own_go (mkF m 138 #[iv x, iv y, iv z, iv (1 : Int32), .unset, .unset, .unset] [(.int z), (.int ((x &&& (7 : Int32)) <<< ((18 : Int32) &&& 31)))]) (fun t' k => XS.iloadN X0.here hx rfl (hb hby own_d2_137) rfl  k) ?_
              refine own_go (mkF m 140 #[iv x, iv y, iv z, iv (1 : Int32), .unset, .unset, .unset] [(.int (63 : Int32)), (.int z), (.int ((x &&& (7 : Int32)) <<< ((18 : Int32) &&& 31)))]) (fun t' k => XS.bipush X0.here hx rfl (hb hby own_d2_138) k) ?_
              refine own_go (mkF m 141 #[iv x, iv y, iv z, iv (1 : Int32), .unset, .unset, .unset] [(.int (z &&& (63 : Int32))), (.int ((x &&& (7 : Int32)) <<< ((18 : Int32) &&& 31)))]) (fun t' k => XS.iand X0.here hx rfl (hb hby own_d2_140) rfl k) ?_
              refine own_go (mkF m 143 #[iv x, iv y, iv z, iv (1 : Int32), .unset, .unset, .unset] [(.int (12 : Int32)), (.int (z &&& (63 : Int32))), (.int ((x &&& (7 : Int32)) <<< ((18 : Int32) &&& 31)))]) (fun t' k => XS.bipush X0.here hx rfl (hb hby own_d2_141) k) ?_
              refine own_go (mkF m 144 #[iv x, iv y, iv z, iv (1 : Int32), .unset, .unset, .unset] [(.int ((z &&& (63 : Int32)) <<< ((12 : Int32) &&& 31))), (.int ((x &&& (7 : Int32)) <<< ((18 : Int32) &&& 31)))]) (fun t' k => XS.ishl X0.here hx rfl (hb hby own_d2_143) rfl k) ?_
              refine own_go (mkF m 145 #[iv x, iv y, iv z, iv (1 : Int32), .unset, .unset, .unset] [(.int (((x &&& (7 : Int32)) <<< ((18 : Int32) &&& 31)) ||| ((z &&& (63 : Int32)) <<< ((12 : Int32) &&& 31))))]) (fun t' k => XS.ior X0.here hx rfl (hb hby own_d2_144) rfl k) ?_
              refine own_go (mkF m 147 #[iv x, iv y, iv z, iv (1 : Int32), iv (((x &&& (7 : Int32)) <<< ((18 : Int32) &&& 31)) ||| ((z &&& (63 : Int32)) <<< ((12 : Int32) &&& 31))), .unset, .unset] []) (fun t' k => XS.istore X0.here hx rfl (hb hby own_d2_145) rfl (l' := #[iv x, iv y, iv z, iv (1 : Int32), iv (((x &&& (7 : Int32)) <<< ((18 : Int32) &&& 31)) ||| ((z &&& (63 : Int32)) <<< ((12 : Int32) &&& 31))), .unset, .unset]) rfl k) ?_
              refine own_go (mkF m 149 #[iv x, iv y, iv z, iv (1 : Int32), iv (((x &&& (7 : Int32)) <<< ((18 : Int32) &&& 31)) ||| ((z &&& (63 : Int32)) <<< ((12 : Int32) &&& 31))), .unset, .unset] [(.int (((x &&& (7 : Int32)) <<< ((18 : Int32) &&& 31)) ||| ((z &&& (63 : Int32)) <<< ((12 : Int32) &&& 31))))]) (fun t' k => XS.iload X0.here hx rfl (hb hby own_d2_147) rfl  k) ?_
              refine own_go (mkF m 151 #[iv x, iv y, iv z, iv (1 : Int32), iv (((x &&& (7 : Int32)) <<< ((18 : Int32) &&& 31)) ||| ((z &&& (63 : Int32)) <<< ((12 : Int32) &&& 31))), .unset, .unset] [(.int (65536 : Int32)), (.int (((x &&& (7 : Int32)) <<< ((18 : Int32) &&& 31)) ||| ((z &&& (63 : Int32)) <<< ((12 : Int32) &&& 31))))]) (fun t' k => X0.ldcInt hx hown (mvT hZ (hw _ (List.mem_of_getElem? (i := 10) rfl))) (g := (mkF m 149 #[iv x, iv y, iv z, iv (1 : Int32), iv (((x &&& (7 : Int32)) <<< ((18 : Int32) &&& 31)) ||| ((z &&& (63 : Int32)) <<< ((12 : Int32) &&& 31))), .unset, .unset] [(.int (((x &&& (7 : Int32)) <<< ((18 : Int32) &&& 31)) ||| ((z &&& (63 : Int32)) <<< ((12 : Int32) &&& 31))))])) rfl (hb hby own_d2_149) _ k) ?_
              by_cases hc151 : (((x &&& (7 : Int32)) <<< ((18 : Int32) &&& 31)) ||| ((z &&& (63 : Int32)) <<< ((12 : Int32) &&& 31))) < (65536 : Int32)
              · skip
                refine own_go (mkF m 165 #[iv x, iv y, iv z, iv (1 : Int32), iv (((x &&& (7 : Int32)) <<< ((18 : Int32) &&& 31)) ||| ((z &&& (63 : Int32)) <<< ((12 : Int32) &&& 31))), .unset, .unset] []) (fun t' k => XS.icmpYes X0.here hx rfl (pc0 := 151) (pc' := 165) rfl (hb hby own_d2_151) rfl (tlt hc151).1 (by decide) (by decide) k) ?_
                refine own_go (mkF m 166 #[iv x, iv y, iv z, iv (1 : Int32), iv (((x &&& (7 : Int32)) <<< ((18 : Int32) &&& 31)) ||| ((z &&& (63 : Int32)) <<< ((12 : Int32) &&& 31))), .unset, .unset] [(.int (0 : Int32))]) (fun t' k => XS.iconst X0.here hx rfl (hb hby own_d2_165) k) ?_
                refine own_retZ X0 hx hlk hret (hb hby own_d2_166) ?_ (by decide) (by decide)
                exact ⟨congrArg (fun z => some (Value.int z)) ((show (own_expd x y z) = (0 : Int32) from ((if_neg hc4).trans ((if_neg hc11).trans ((if_pos hc28).trans ((if_pos hc37).trans ((if_neg hc120).trans ((if_neg hc127).trans ((if_pos hc151).trans rfl)))))))).trans (by decide : (0 : Int32) = ((0 : Int32) &&& 1))).symm, e0, rfl⟩
              · skip
                refine own_go (mkF m 154 #[iv x, iv y, iv z, iv (1 : Int32), iv (((x &&& (7 : Int32)) <<< ((18 : Int32) &&& 31)) ||| ((z &&& (63 : Int32)) <<< ((12 : Int32) &&& 31))), .unset, .unset] []) (fun t' k => XS.icmpNo X0.here hx rfl (hb hby own_d2_151) rfl (flt hc151).1 k) ?_
                refine own_go (mkF m 156 #[iv x, iv y, iv z, iv (1 : Int32), iv (((x &&& (7 : Int32)) <<< ((18 : Int32) &&& 31)) ||| ((z &&& (63 : Int32)) <<< ((12 : Int32) &&& 31))), .unset, .unset] [(.int (((x &&& (7 : Int32)) <<< ((18 : Int32) &&& 31)) ||| ((z &&& (63 : Int32)) <<< ((12 : Int32) &&& 31))))]) (fun t' k => XS.iload X0.here hx rfl (hb hby own_d2_154) rfl  k) ?_
                refine own_go (mkF m 158 #[iv x, iv y, iv z, iv (1 : Int32), iv (((x &&& (7 : Int32)) <<< ((18 : Int32) &&& 31)) ||| ((z &&& (63 : Int32)) <<< ((12 : Int32) &&& 31))), .unset, .unset] [(.int (1114111 : Int32)), (.int (((x &&& (7 : Int32)) <<< ((18 : Int32) &&& 31)) ||| ((z &&& (63 : Int32)) <<< ((12 : Int32) &&& 31))))]) (fun t' k => X0.ldcInt hx hown (mvT hZ (hw _ (List.mem_of_getElem? (i := 11) rfl))) (g := (mkF m 156 #[iv x, iv y, iv z, iv (1 : Int32), iv (((x &&& (7 : Int32)) <<< ((18 : Int32) &&& 31)) ||| ((z &&& (63 : Int32)) <<< ((12 : Int32) &&& 31))), .unset, .unset] [(.int (((x &&& (7 : Int32)) <<< ((18 : Int32) &&& 31)) ||| ((z &&& (63 : Int32)) <<< ((12 : Int32) &&& 31))))])) rfl (hb hby own_d2_156) _ k) ?_
                by_cases hc158 : (1114111 : Int32) < (((x &&& (7 : Int32)) <<< ((18 : Int32) &&& 31)) ||| ((z &&& (63 : Int32)) <<< ((12 : Int32) &&& 31)))
                · skip
                  refine own_go (mkF m 165 #[iv x, iv y, iv z, iv (1 : Int32), iv (((x &&& (7 : Int32)) <<< ((18 : Int32) &&& 31)) ||| ((z &&& (63 : Int32)) <<< ((12 : Int32) &&& 31))), .unset, .unset] []) (fun t' k => XS.icmpYes X0.here hx rfl (pc0 := 158) (pc' := 165) rfl (hb hby own_d2_158) rfl (tlt hc158).2.2.1 (by decide) (by decide) k) ?_
                  refine own_go (mkF m 166 #[iv x, iv y, iv z, iv (1 : Int32), iv (((x &&& (7 : Int32)) <<< ((18 : Int32) &&& 31)) ||| ((z &&& (63 : Int32)) <<< ((12 : Int32) &&& 31))), .unset, .unset] [(.int (0 : Int32))]) (fun t' k => XS.iconst X0.here hx rfl (hb hby own_d2_165) k) ?_
                  refine own_retZ X0 hx hlk hret (hb hby own_d2_166) ?_ (by decide) (by decide)
                  exact ⟨congrArg (fun z => some (Value.int z)) ((show (own_expd x y z) = (0 : Int32) from ((if_neg hc4).trans ((if_neg hc11).trans ((if_pos hc28).trans ((if_pos hc37).trans ((if_neg hc120).trans ((if_neg hc127).trans ((if_neg hc151).trans ((if_pos hc158).trans rfl))))))))).trans (by decide : (0 : Int32) = ((0 : Int32) &&& 1))).symm, e0, rfl⟩
                · skip
                  refine own_go (mkF m 161 #[iv x, iv y, iv z, iv (1 : Int32), iv (((x &&& (7 : Int32)) <<< ((18 : Int32) &&& 31)) ||| ((z &&& (63 : Int32)) <<< ((12 : Int32) &&& 31))), .unset, .unset] []) (fun t' k => XS.icmpNo X0.here hx rfl (hb hby own_d2_158) rfl (flt hc158).2.2.1 k) ?_
                  refine own_go (mkF m 162 #[iv x, iv y, iv z, iv (1 : Int32), iv (((x &&& (7 : Int32)) <<< ((18 : Int32) &&& 31)) ||| ((z &&& (63 : Int32)) <<< ((12 : Int32) &&& 31))), .unset, .unset] [(.int (1 : Int32))]) (fun t' k => XS.iconst X0.here hx rfl (hb hby own_d2_161) k) ?_
                  refine own_go (mkF m 166 #[iv x, iv y, iv z, iv (1 : Int32), iv (((x &&& (7 : Int32)) <<< ((18 : Int32) &&& 31)) ||| ((z &&& (63 : Int32)) <<< ((12 : Int32) &&& 31))), .unset, .unset] [(.int (1 : Int32))]) (fun t' k => XS.goto X0.here hx rfl (pc0 := 162) (pc' := 166) rfl (hb hby own_d2_162) (by decide) (by decide) k) ?_
                  refine own_retZ X0 hx hlk hret (hb hby own_d2_166) ?_ (by decide) (by decide)
                  exact ⟨congrArg (fun z => some (Value.int z)) ((show (own_expd x y z) = (1 : Int32) from ((if_neg hc4).trans ((if_neg hc11).trans ((if_pos hc28).trans ((if_pos hc37).trans ((if_neg hc120).trans ((if_neg hc127).trans ((if_neg hc151).trans ((if_neg hc158).trans rfl))))))))).trans (by decide : (1 : Int32) = ((1 : Int32) &&& 1))).symm, e0, rfl⟩
        · skip
          refine own_go (mkF m 40 #[iv x, iv y, iv z, iv (1 : Int32), .unset, .unset, .unset] []) (fun t' k => XS.icmpNo X0.here hx rfl (hb hby own_d2_37) rfl (flt hc37).1 k) ?_
          refine own_go (mkF m 41 #[iv x, iv y, iv z, iv (1 : Int32), .unset, .unset, .unset] [(.int x)]) (fun t' k => XS.iloadN X0.here hx rfl (hb hby own_d2_40) rfl  k) ?_
          refine own_go (mkF m 44 #[iv x, iv y, iv z, iv (1 : Int32), .unset, .unset, .unset] [(.int (239 : Int32)), (.int x)]) (fun t' k => XS.sipush X0.here hx rfl (hb hby own_d2_41) k) ?_
          by_cases hc44 : (239 : Int32) < x
          · skip
            refine own_go (mkF m 116 #[iv x, iv y, iv z, iv (1 : Int32), .unset, .unset, .unset] []) (fun t' k => XS.icmpYes X0.here hx rfl (pc0 := 44) (pc' := 116) rfl (hb hby own_d2_44) rfl (tlt hc44).2.2.1 (by decide) (by decide) k) ?_
            refine own_go (mkF m 117 #[iv x, iv y, iv z, iv (1 : Int32), .unset, .unset, .unset] [(.int x)]) (fun t' k => XS.iloadN X0.here hx rfl (hb hby own_d2_116) rfl  k) ?_
            refine own_go (mkF m 120 #[iv x, iv y, iv z, iv (1 : Int32), .unset, .unset, .unset] [(.int (240 : Int32)), (.int x)]) (fun t' k => XS.sipush X0.here hx rfl (hb hby own_d2_117) k) ?_
            by_cases hc120 : x < (240 : Int32)
            · skip
              refine own_go (mkF m 167 #[iv x, iv y, iv z, iv (1 : Int32), .unset, .unset, .unset] []) (fun t' k => XS.icmpYes X0.here hx rfl (pc0 := 120) (pc' := 167) rfl (hb hby own_d2_120) rfl (tlt hc120).1 (by decide) (by decide) k) ?_
              refine own_go (mkF m 168 #[iv x, iv y, iv z, iv (1 : Int32), .unset, .unset, .unset] [(.int (1 : Int32))]) (fun t' k => XS.iconst X0.here hx rfl (hb hby own_d2_167) k) ?_
              refine own_retZ X0 hx hlk hret (hb hby own_d2_168) ?_ (by decide) (by decide)
              exact ⟨congrArg (fun z => some (Value.int z)) ((show (own_expd x y z) = (1 : Int32) from ((if_neg hc4).trans ((if_neg hc11).trans ((if_pos hc28).trans ((if_neg hc37).trans ((if_pos hc44).trans ((if_pos hc120).trans rfl))))))).trans (by decide : (1 : Int32) = ((1 : Int32) &&& 1))).symm, e0, rfl⟩
            · skip
              refine own_go (mkF m 123 #[iv x, iv y, iv z, iv (1 : Int32), .unset, .unset, .unset] []) (fun t' k => XS.icmpNo X0.here hx rfl (hb hby own_d2_120) rfl (flt hc120).1 k) ?_
              refine own_go (mkF m 124 #[iv x, iv y, iv z, iv (1 : Int32), .unset, .unset, .unset] [(.int x)]) (fun t' k => XS.iloadN X0.here hx rfl (hb hby own_d2_123) rfl  k) ?_
              refine own_go (mkF m 127 #[iv x, iv y, iv z, iv (1 : Int32), .unset, .unset, .unset] [(.int (244 : Int32)), (.int x)]) (fun t' k => XS.sipush X0.here hx rfl (hb hby own_d2_124) k) ?_
              by_cases hc127 : (244 : Int32) < x
              · skip
                refine own_go (mkF m 167 #[iv x, iv y, iv z, iv (1 : Int32), .unset, .unset, .unset] []) (fun t' k => XS.icmpYes X0.here hx rfl (pc0 := 127) (pc' := 167) rfl (hb hby own_d2_127) rfl (tlt hc127).2.2.1 (by decide) (by decide) k) ?_
                refine own_go (mkF m 168 #[iv x, iv y, iv z, iv (1 : Int32), .unset, .unset, .unset] [(.int (1 : Int32))]) (fun t' k => XS.iconst X0.here hx rfl (hb hby own_d2_167) k) ?_
                refine own_retZ X0 hx hlk hret (hb hby own_d2_168) ?_ (by decide) (by decide)
                exact ⟨congrArg (fun z => some (Value.int z)) ((show (own_expd x y z) = (1 : Int32) from ((if_neg hc4).trans ((if_neg hc11).trans ((if_pos hc28).trans ((if_neg hc37).trans ((if_pos hc44).trans ((if_neg hc120).trans ((if_pos hc127).trans rfl)))))))).trans (by decide : (1 : Int32) = ((1 : Int32) &&& 1))).symm, e0, rfl⟩
              · skip
                refine own_go (mkF m 130 #[iv x, iv y, iv z, iv (1 : Int32), .unset, .unset, .unset] []) (fun t' k => XS.icmpNo X0.here hx rfl (hb hby own_d2_127) rfl (flt hc127).2.2.1 k) ?_
                refine own_go (mkF m 131 #[iv x, iv y, iv z, iv (1 : Int32), .unset, .unset, .unset] [(.int x)]) (fun t' k => XS.iloadN X0.here hx rfl (hb hby own_d2_130) rfl  k) ?_
                refine own_go (mkF m 133 #[iv x, iv y, iv z, iv (1 : Int32), .unset, .unset, .unset] [(.int (7 : Int32)), (.int x)]) (fun t' k => XS.bipush X0.here hx rfl (hb hby own_d2_131) k) ?_
                refine own_go (mkF m 134 #[iv x, iv y, iv z, iv (1 : Int32), .unset, .unset, .unset] [(.int (x &&& (7 : Int32)))]) (fun t' k => XS.iand X0.here hx rfl (hb hby own_d2_133) rfl k) ?_
                refine own_go (mkF m 136 #[iv x, iv y, iv z, iv (1 : Int32), .unset, .unset, .unset] [(.int (18 : Int32)), (.int (x &&& (7 : Int32)))]) (fun t' k => XS.bipush X0.here hx rfl (hb hby own_d2_134) k) ?_
                refine own_go (mkF m 137 #[iv x, iv y, iv z, iv (1 : Int32), .unset, .unset, .unset] [(.int ((x &&& (7 : Int32)) <<< ((18 : Int32) &&& 31)))]) (fun t' k => XS.ishl X0.here hx rfl (hb hby own_d2_136) rfl k) ?_
                refine own_go (mkF m 138 #[iv x, iv y, iv z, iv (1 : Int32), .unset, .unset, .unset] [(.int z), (.int ((x &&& (7 : Int32)) <<< ((18 : Int32) &&& 31)))]) (fun t' k => XS.iloadN X0.here hx rfl (hb hby own_d2_137) rfl  k) ?_
                refine own_go (mkF m 140 #[iv x, iv y, iv z, iv (1 : Int32), .unset, .unset, .unset] [(.int (63 : Int32)), (.int z), (.int ((x &&& (7 : Int32)) <<< ((18 : Int32) &&& 31)))]) (fun t' k => XS.bipush X0.here hx rfl (hb hby own_d2_138) k) ?_
                refine own_go (mkF m 141 #[iv x, iv y, iv z, iv (1 : Int32), .unset, .unset, .unset] [(.int (z &&& (63 : Int32))), (.int ((x &&& (7 : Int32)) <<< ((18 : Int32) &&& 31)))]) (fun t' k => XS.iand X0.here hx rfl (hb hby own_d2_140) rfl k) ?_
                refine own_go (mkF m 143 #[iv x, iv y, iv z, iv (1 : Int32), .unset, .unset, .unset] [(.int (12 : Int32)), (.int (z &&& (63 : Int32))), (.int ((x &&& (7 : Int32)) <<< ((18 : Int32) &&& 31)))]) (fun t' k => XS.bipush X0.here hx rfl (hb hby own_d2_141) k) ?_
                refine own_go (mkF m 144 #[iv x, iv y, iv z, iv (1 : Int32), .unset, .unset, .unset] [(.int ((z &&& (63 : Int32)) <<< ((12 : Int32) &&& 31))), (.int ((x &&& (7 : Int32)) <<< ((18 : Int32) &&& 31)))]) (fun t' k => XS.ishl X0.here hx rfl (hb hby own_d2_143) rfl k) ?_
                refine own_go (mkF m 145 #[iv x, iv y, iv z, iv (1 : Int32), .unset, .unset, .unset] [(.int (((x &&& (7 : Int32)) <<< ((18 : Int32) &&& 31)) ||| ((z &&& (63 : Int32)) <<< ((12 : Int32) &&& 31))))]) (fun t' k => XS.ior X0.here hx rfl (hb hby own_d2_144) rfl k) ?_
                refine own_go (mkF m 147 #[iv x, iv y, iv z, iv (1 : Int32), iv (((x &&& (7 : Int32)) <<< ((18 : Int32) &&& 31)) ||| ((z &&& (63 : Int32)) <<< ((12 : Int32) &&& 31))), .unset, .unset] []) (fun t' k => XS.istore X0.here hx rfl (hb hby own_d2_145) rfl (l' := #[iv x, iv y, iv z, iv (1 : Int32), iv (((x &&& (7 : Int32)) <<< ((18 : Int32) &&& 31)) ||| ((z &&& (63 : Int32)) <<< ((12 : Int32) &&& 31))), .unset, .unset]) rfl k) ?_
                refine own_go (mkF m 149 #[iv x, iv y, iv z, iv (1 : Int32), iv (((x &&& (7 : Int32)) <<< ((18 : Int32) &&& 31)) ||| ((z &&& (63 : Int32)) <<< ((12 : Int32) &&& 31))), .unset, .unset] [(.int (((x &&& (7 : Int32)) <<< ((18 : Int32) &&& 31)) ||| ((z &&& (63 : Int32)) <<< ((12 : Int32) &&& 31))))]) (fun t' k => XS.iload X0.here hx rfl (hb hby own_d2_147) rfl  k) ?_
                refine own_go (mkF m 151 #[iv x, iv y, iv z, iv (1 : Int32), iv (((x &&& (7 : Int32)) <<< ((18 : Int32) &&& 31)) ||| ((z &&& (63 : Int32)) <<< ((12 : Int32) &&& 31))), .unset, .unset] [(.int (65536 : Int32)), (.int (((x &&& (7 : Int32)) <<< ((18 : Int32) &&& 31)) ||| ((z &&& (63 : Int32)) <<< ((12 : Int32) &&& 31))))]) (fun t' k => X0.ldcInt hx hown (mvT hZ (hw _ (List.mem_of_getElem? (i := 10) rfl))) (g := (mkF m 149 #[iv x, iv y, iv z, iv (1 : Int32), iv (((x &&& (7 : Int32)) <<< ((18 : Int32) &&& 31)) ||| ((z &&& (63 : Int32)) <<< ((12 : Int32) &&& 31))), .unset, .unset] [(.int (((x &&& (7 : Int32)) <<< ((18 : Int32) &&& 31)) ||| ((z &&& (63 : Int32)) <<< ((12 : Int32) &&& 31))))])) rfl (hb hby own_d2_149) _ k) ?_
                by_cases hc151 : (((x &&& (7 : Int32)) <<< ((18 : Int32) &&& 31)) ||| ((z &&& (63 : Int32)) <<< ((12 : Int32) &&& 31))) < (65536 : Int32)
                · skip
                  refine own_go (mkF m 165 #[iv x, iv y, iv z, iv (1 : Int32), iv (((x &&& (7 : Int32)) <<< ((18 : Int32) &&& 31)) ||| ((z &&& (63 : Int32)) <<< ((12 : Int32) &&& 31))), .unset, .unset] []) (fun t' k => XS.icmpYes X0.here hx rfl (pc0 := 151) (pc' := 165) rfl (hb hby own_d2_151) rfl (tlt hc151).1 (by decide) (by decide) k) ?_
                  refine own_go (mkF m 166 #[iv x, iv y, iv z, iv (1 : Int32), iv (((x &&& (7 : Int32)) <<< ((18 : Int32) &&& 31)) ||| ((z &&& (63 : Int32)) <<< ((12 : Int32) &&& 31))), .unset, .unset] [(.int (0 : Int32))]) (fun t' k => XS.iconst X0.here hx rfl (hb hby own_d2_165) k) ?_
                  refine own_retZ X0 hx hlk hret (hb hby own_d2_166) ?_ (by decide) (by decide)
                  exact ⟨congrArg (fun z => some (Value.int z)) ((show (own_expd x y z) = (0 : Int32) from ((if_neg hc4).trans ((if_neg hc11).trans ((if_pos hc28).trans ((if_neg hc37).trans ((if_pos hc44).trans ((if_neg hc120).trans ((if_neg hc127).trans ((if_pos hc151).trans rfl))))))))).trans (by decide : (0 : Int32) = ((0 : Int32) &&& 1))).symm, e0, rfl⟩
                · skip
                  refine own_go (mkF m 154 #[iv x, iv y, iv z, iv (1 : Int32), iv (((x &&& (7 : Int32)) <<< ((18 : Int32) &&& 31)) ||| ((z &&& (63 : Int32)) <<< ((12 : Int32) &&& 31))), .unset, .unset] []) (fun t' k => XS.icmpNo X0.here hx rfl (hb hby own_d2_151) rfl (flt hc151).1 k) ?_
                  refine own_go (mkF m 156 #[iv x, iv y, iv z, iv (1 : Int32), iv (((x &&& (7 : Int32)) <<< ((18 : Int32) &&& 31)) ||| ((z &&& (63 : Int32)) <<< ((12 : Int32) &&& 31))), .unset, .unset] [(.int (((x &&& (7 : Int32)) <<< ((18 : Int32) &&& 31)) ||| ((z &&& (63 : Int32)) <<< ((12 : Int32) &&& 31))))]) (fun t' k => XS.iload X0.here hx rfl (hb hby own_d2_154) rfl  k) ?_
                  refine own_go (mkF m 158 #[iv x, iv y, iv z, iv (1 : Int32), iv (((x &&& (7 : Int32)) <<< ((18 : Int32) &&& 31)) ||| ((z &&& (63 : Int32)) <<< ((12 : Int32) &&& 31))), .unset, .unset] [(.int (1114111 : Int32)), (.int (((x &&& (7 : Int32)) <<< ((18 : Int32) &&& 31)) ||| ((z &&& (63 : Int32)) <<< ((12 : Int32) &&& 31))))]) (fun t' k => X0.ldcInt hx hown (mvT hZ (hw _ (List.mem_of_getElem? (i := 11) rfl))) (g := (mkF m 156 #[iv x, iv y, iv z, iv (1 : Int32), iv (((x &&& (7 : Int32)) <<< ((18 : Int32) &&& 31)) ||| ((z &&& (63 : Int32)) <<< ((12 : Int32) &&& 31))), .unset, .unset] [(.int (((x &&& (7 : Int32)) <<< ((18 : Int32) &&& 31)) ||| ((z &&& (63 : Int32)) <<< ((12 : Int32) &&& 31))))])) rfl (hb hby own_d2_156) _ k) ?_
                  by_cases hc158 : (1114111 : Int32) < (((x &&& (7 : Int32)) <<< ((18 : Int32) &&& 31)) ||| ((z &&& (63 : Int32)) <<< ((12 : Int32) &&& 31)))
                  · skip
                    refine own_go (mkF m 165 #[iv x, iv y, iv z, iv (1 : Int32), iv (((x &&& (7 : Int32)) <<< ((18 : Int32) &&& 31)) ||| ((z &&& (63 : Int32)) <<< ((12 : Int32) &&& 31))), .unset, .unset] []) (fun t' k => XS.icmpYes X0.here hx rfl (pc0 := 158) (pc' := 165) rfl (hb hby own_d2_158) rfl (tlt hc158).2.2.1 (by decide) (by decide) k) ?_
                    refine own_go (mkF m 166 #[iv x, iv y, iv z, iv (1 : Int32), iv (((x &&& (7 : Int32)) <<< ((18 : Int32) &&& 31)) ||| ((z &&& (63 : Int32)) <<< ((12 : Int32) &&& 31))), .unset, .unset] [(.int (0 : Int32))]) (fun t' k => XS.iconst X0.here hx rfl (hb hby own_d2_165) k) ?_
                    refine own_retZ X0 hx hlk hret (hb hby own_d2_166) ?_ (by decide) (by decide)
                    exact ⟨congrArg (fun z => some (Value.int z)) ((show (own_expd x y z) = (0 : Int32) from ((if_neg hc4).trans ((if_neg hc11).trans ((if_pos hc28).trans ((if_neg hc37).trans ((if_pos hc44).trans ((if_neg hc120).trans ((if_neg hc127).trans ((if_neg hc151).trans ((if_pos hc158).trans rfl)))))))))).trans (by decide : (0 : Int32) = ((0 : Int32) &&& 1))).symm, e0, rfl⟩
                  · skip
                    refine own_go (mkF m 161 #[iv x, iv y, iv z, iv (1 : Int32), iv (((x &&& (7 : Int32)) <<< ((18 : Int32) &&& 31)) ||| ((z &&& (63 : Int32)) <<< ((12 : Int32) &&& 31))), .unset, .unset] []) (fun t' k => XS.icmpNo X0.here hx rfl (hb hby own_d2_158) rfl (flt hc158).2.2.1 k) ?_
                    refine own_go (mkF m 162 #[iv x, iv y, iv z, iv (1 : Int32), iv (((x &&& (7 : Int32)) <<< ((18 : Int32) &&& 31)) ||| ((z &&& (63 : Int32)) <<< ((12 : Int32) &&& 31))), .unset, .unset] [(.int (1 : Int32))]) (fun t' k => XS.iconst X0.here hx rfl (hb hby own_d2_161) k) ?_
                    refine own_go (mkF m 166 #[iv x, iv y, iv z, iv (1 : Int32), iv (((x &&& (7 : Int32)) <<< ((18 : Int32) &&& 31)) ||| ((z &&& (63 : Int32)) <<< ((12 : Int32) &&& 31))), .unset, .unset] [(.int (1 : Int32))]) (fun t' k => XS.goto X0.here hx rfl (pc0 := 162) (pc' := 166) rfl (hb hby own_d2_162) (by decide) (by decide) k) ?_
                    refine own_retZ X0 hx hlk hret (hb hby own_d2_166) ?_ (by decide) (by decide)
                    exact ⟨congrArg (fun z => some (Value.int z)) ((show (own_expd x y z) = (1 : Int32) from ((if_neg hc4).trans ((if_neg hc11).trans ((if_pos hc28).trans ((if_neg hc37).trans ((if_pos hc44).trans ((if_neg hc120).trans ((if_neg hc127).trans ((if_neg hc151).trans ((if_neg hc158).trans rfl)))))))))).trans (by decide : (1 : Int32) = ((1 : Int32) &&& 1))).symm, e0, rfl⟩
          · skip
            refine own_go (mkF m 47 #[iv x, iv y, iv z, iv (1 : Int32), .unset, .unset, .unset] []) (fun t' k => XS.icmpNo X0.here hx rfl (hb hby own_d2_44) rfl (flt hc44).2.2.1 k) ?_
            refine own_go (mkF m 48 #[iv x, iv y, iv z, iv (1 : Int32), .unset, .unset, .unset] [(.int x)]) (fun t' k => XS.iloadN X0.here hx rfl (hb hby own_d2_47) rfl  k) ?_
            refine own_go (mkF m 50 #[iv x, iv y, iv z, iv (1 : Int32), .unset, .unset, .unset] [(.int (15 : Int32)), (.int x)]) (fun t' k => XS.bipush X0.here hx rfl (hb hby own_d2_48) k) ?_
            refine own_go (mkF m 51 #[iv x, iv y, iv z, iv (1 : Int32), .unset, .unset, .unset] [(.int (x &&& (15 : Int32)))]) (fun t' k => XS.iand X0.here hx rfl (hb hby own_d2_50) rfl k) ?_
            refine own_go (mkF m 53 #[iv x, iv y, iv z, iv (1 : Int32), .unset, .unset, .unset] [(.int (12 : Int32)), (.int (x &&& (15 : Int32)))]) (fun t' k => XS.bipush X0.here hx rfl (hb hby own_d2_51) k) ?_
            refine own_go (mkF m 54 #[iv x, iv y, iv z, iv (1 : Int32), .unset, .unset, .unset] [(.int ((x &&& (15 : Int32)) <<< ((12 : Int32) &&& 31)))]) (fun t' k => XS.ishl X0.here hx rfl (hb hby own_d2_53) rfl k) ?_
            refine own_go (mkF m 55 #[iv x, iv y, iv z, iv (1 : Int32), .unset, .unset, .unset] [(.int z), (.int ((x &&& (15 : Int32)) <<< ((12 : Int32) &&& 31)))]) (fun t' k => XS.iloadN X0.here hx rfl (hb hby own_d2_54) rfl  k) ?_
            refine own_go (mkF m 57 #[iv x, iv y, iv z, iv (1 : Int32), .unset, .unset, .unset] [(.int (63 : Int32)), (.int z), (.int ((x &&& (15 : Int32)) <<< ((12 : Int32) &&& 31)))]) (fun t' k => XS.bipush X0.here hx rfl (hb hby own_d2_55) k) ?_
            refine own_go (mkF m 58 #[iv x, iv y, iv z, iv (1 : Int32), .unset, .unset, .unset] [(.int (z &&& (63 : Int32))), (.int ((x &&& (15 : Int32)) <<< ((12 : Int32) &&& 31)))]) (fun t' k => XS.iand X0.here hx rfl (hb hby own_d2_57) rfl k) ?_
            refine own_go (mkF m 60 #[iv x, iv y, iv z, iv (1 : Int32), .unset, .unset, .unset] [(.int (6 : Int32)), (.int (z &&& (63 : Int32))), (.int ((x &&& (15 : Int32)) <<< ((12 : Int32) &&& 31)))]) (fun t' k => XS.bipush X0.here hx rfl (hb hby own_d2_58) k) ?_
            refine own_go (mkF m 61 #[iv x, iv y, iv z, iv (1 : Int32), .unset, .unset, .unset] [(.int ((z &&& (63 : Int32)) <<< ((6 : Int32) &&& 31))), (.int ((x &&& (15 : Int32)) <<< ((12 : Int32) &&& 31)))]) (fun t' k => XS.ishl X0.here hx rfl (hb hby own_d2_60) rfl k) ?_
            refine own_go (mkF m 62 #[iv x, iv y, iv z, iv (1 : Int32), .unset, .unset, .unset] [(.int (((x &&& (15 : Int32)) <<< ((12 : Int32) &&& 31)) ||| ((z &&& (63 : Int32)) <<< ((6 : Int32) &&& 31))))]) (fun t' k => XS.ior X0.here hx rfl (hb hby own_d2_61) rfl k) ?_
            refine own_go (mkF m 64 #[iv x, iv y, iv z, iv (1 : Int32), iv (((x &&& (15 : Int32)) <<< ((12 : Int32) &&& 31)) ||| ((z &&& (63 : Int32)) <<< ((6 : Int32) &&& 31))), .unset, .unset] []) (fun t' k => XS.istore X0.here hx rfl (hb hby own_d2_62) rfl (l' := #[iv x, iv y, iv z, iv (1 : Int32), iv (((x &&& (15 : Int32)) <<< ((12 : Int32) &&& 31)) ||| ((z &&& (63 : Int32)) <<< ((6 : Int32) &&& 31))), .unset, .unset]) rfl k) ?_
            refine own_go (mkF m 66 #[iv x, iv y, iv z, iv (1 : Int32), iv (((x &&& (15 : Int32)) <<< ((12 : Int32) &&& 31)) ||| ((z &&& (63 : Int32)) <<< ((6 : Int32) &&& 31))), .unset, .unset] [(.int (((x &&& (15 : Int32)) <<< ((12 : Int32) &&& 31)) ||| ((z &&& (63 : Int32)) <<< ((6 : Int32) &&& 31))))]) (fun t' k => XS.iload X0.here hx rfl (hb hby own_d2_64) rfl  k) ?_
            refine own_go (mkF m 69 #[iv x, iv y, iv z, iv (1 : Int32), iv (((x &&& (15 : Int32)) <<< ((12 : Int32) &&& 31)) ||| ((z &&& (63 : Int32)) <<< ((6 : Int32) &&& 31))), .unset, .unset] [(.int (2048 : Int32)), (.int (((x &&& (15 : Int32)) <<< ((12 : Int32) &&& 31)) ||| ((z &&& (63 : Int32)) <<< ((6 : Int32) &&& 31))))]) (fun t' k => XS.sipush X0.here hx rfl (hb hby own_d2_66) k) ?_
            by_cases hc69 : (((x &&& (15 : Int32)) <<< ((12 : Int32) &&& 31)) ||| ((z &&& (63 : Int32)) <<< ((6 : Int32) &&& 31))) < (2048 : Int32)
            · skip
              refine own_go (mkF m 72 #[iv x, iv y, iv z, iv (1 : Int32), iv (((x &&& (15 : Int32)) <<< ((12 : Int32) &&& 31)) ||| ((z &&& (63 : Int32)) <<< ((6 : Int32) &&& 31))), .unset, .unset] []) (fun t' k => XS.icmpNo X0.here hx rfl (hb hby own_d2_69) rfl (tlt hc69).2.1 k) ?_
              refine own_go (mkF m 73 #[iv x, iv y, iv z, iv (1 : Int32), iv (((x &&& (15 : Int32)) <<< ((12 : Int32) &&& 31)) ||| ((z &&& (63 : Int32)) <<< ((6 : Int32) &&& 31))), .unset, .unset] [(.int (1 : Int32))]) (fun t' k => XS.iconst X0.here hx rfl (hb hby own_d2_72) k) ?_
              refine own_go (mkF m 77 #[iv x, iv y, iv z, iv (1 : Int32), iv (((x &&& (15 : Int32)) <<< ((12 : Int32) &&& 31)) ||| ((z &&& (63 : Int32)) <<< ((6 : Int32) &&& 31))), .unset, .unset] [(.int (1 : Int32))]) (fun t' k => XS.goto X0.here hx rfl (pc0 := 73) (pc' := 77) rfl (hb hby own_d2_73) (by decide) (by decide) k) ?_
              refine own_go (mkF m 79 #[iv x, iv y, iv z, iv (1 : Int32), iv (((x &&& (15 : Int32)) <<< ((12 : Int32) &&& 31)) ||| ((z &&& (63 : Int32)) <<< ((6 : Int32) &&& 31))), iv (1 : Int32), .unset] []) (fun t' k => XS.istore X0.here hx rfl (hb hby own_d2_77) rfl (l' := #[iv x, iv y, iv z, iv (1 : Int32), iv (((x &&& (15 : Int32)) <<< ((12 : Int32) &&& 31)) ||| ((z &&& (63 : Int32)) <<< ((6 : Int32) &&& 31))), iv (1 : Int32), .unset]) rfl k) ?_
              refine own_go (mkF m 81 #[iv x, iv y, iv z, iv (1 : Int32), iv (((x &&& (15 : Int32)) <<< ((12 : Int32) &&& 31)) ||| ((z &&& (63 : Int32)) <<< ((6 : Int32) &&& 31))), iv (1 : Int32), .unset] [(.int (((x &&& (15 : Int32)) <<< ((12 : Int32) &&& 31)) ||| ((z &&& (63 : Int32)) <<< ((6 : Int32) &&& 31))))]) (fun t' k => XS.iload X0.here hx rfl (hb hby own_d2_79) rfl  k) ?_
              refine own_go (mkF m 83 #[iv x, iv y, iv z, iv (1 : Int32), iv (((x &&& (15 : Int32)) <<< ((12 : Int32) &&& 31)) ||| ((z &&& (63 : Int32)) <<< ((6 : Int32) &&& 31))), iv (1 : Int32), .unset] [(.int (55296 : Int32)), (.int (((x &&& (15 : Int32)) <<< ((12 : Int32) &&& 31)) ||| ((z &&& (63 : Int32)) <<< ((6 : Int32) &&& 31))))]) (fun t' k => X0.ldcInt hx hown (mvT hZ (hw _ (List.mem_of_getElem? (i := 8) rfl))) (g := (mkF m 81 #[iv x, iv y, iv z, iv (1 : Int32), iv (((x &&& (15 : Int32)) <<< ((12 : Int32) &&& 31)) ||| ((z &&& (63 : Int32)) <<< ((6 : Int32) &&& 31))), iv (1 : Int32), .unset] [(.int (((x &&& (15 : Int32)) <<< ((12 : Int32) &&& 31)) ||| ((z &&& (63 : Int32)) <<< ((6 : Int32) &&& 31))))])) rfl (hb hby own_d2_81) _ k) ?_
              by_cases hc83 : (((x &&& (15 : Int32)) <<< ((12 : Int32) &&& 31)) ||| ((z &&& (63 : Int32)) <<< ((6 : Int32) &&& 31))) < (55296 : Int32)
              · skip
                refine own_go (mkF m 97 #[iv x, iv y, iv z, iv (1 : Int32), iv (((x &&& (15 : Int32)) <<< ((12 : Int32) &&& 31)) ||| ((z &&& (63 : Int32)) <<< ((6 : Int32) &&& 31))), iv (1 : Int32), .unset] []) (fun t' k => XS.icmpYes X0.here hx rfl (pc0 := 83) (pc' := 97) rfl (hb hby own_d2_83) rfl (tlt hc83).1 (by decide) (by decide) k) ?_
                refine own_go (mkF m 98 #[iv x, iv y, iv z, iv (1 : Int32), iv (((x &&& (15 : Int32)) <<< ((12 : Int32) &&& 31)) ||| ((z &&& (63 : Int32)) <<< ((6 : Int32) &&& 31))), iv (1 : Int32), .unset] [(.int (0 : Int32))]) (fun t' k => XS.iconst X0.here hx rfl (hb hby own_d2_97) k) ?_
                refine own_go (mkF m 100 #[iv x, iv y, iv z, iv (1 : Int32), iv (((x &&& (15 : Int32)) <<< ((12 : Int32) &&& 31)) ||| ((z &&& (63 : Int32)) <<< ((6 : Int32) &&& 31))), iv (1 : Int32), iv (0 : Int32)] []) (fun t' k => XS.istore X0.here hx rfl (hb hby own_d2_98) rfl (l' := #[iv x, iv y, iv z, iv (1 : Int32), iv (((x &&& (15 : Int32)) <<< ((12 : Int32) &&& 31)) ||| ((z &&& (63 : Int32)) <<< ((6 : Int32) &&& 31))), iv (1 : Int32), iv (0 : Int32)]) rfl k) ?_
                refine own_go (mkF m 102 #[iv x, iv y, iv z, iv (1 : Int32), iv (((x &&& (15 : Int32)) <<< ((12 : Int32) &&& 31)) ||| ((z &&& (63 : Int32)) <<< ((6 : Int32) &&& 31))), iv (1 : Int32), iv (0 : Int32)] [(.int (1 : Int32))]) (fun t' k => XS.iload X0.here hx rfl (hb hby own_d2_100) rfl  k) ?_
                refine own_go (mkF m 114 #[iv x, iv y, iv z, iv (1 : Int32), iv (((x &&& (15 : Int32)) <<< ((12 : Int32) &&& 31)) ||| ((z &&& (63 : Int32)) <<< ((6 : Int32) &&& 31))), iv (1 : Int32), iv (0 : Int32)] []) (fun t' k => XS.ifYes X0.here hx rfl (pc0 := 102) (pc' := 114) rfl (hb hby own_d2_102) rfl ((if0 _ _).trans (feq (by decide)).2) (by decide) (by decide) k) ?_
                refine own_go (mkF m 115 #[iv x, iv y, iv z, iv (1 : Int32), iv (((x &&& (15 : Int32)) <<< ((12 : Int32) &&& 31)) ||| ((z &&& (63 : Int32)) <<< ((6 : Int32) &&& 31))), iv (1 : Int32), iv (0 : Int32)] [(.int (0 : Int32))]) (fun t' k => XS.iconst X0.here hx rfl (hb hby own_d2_114) k) ?_
                refine own_retZ X0 hx hlk hret (hb hby own_d2_115) ?_ (by decide) (by decide)
                exact ⟨congrArg (fun z => some (Value.int z)) ((show (own_expd x y z) = (0 : Int32) from ((if_neg hc4).trans ((if_neg hc11).trans ((if_pos hc28).trans ((if_neg hc37).trans ((if_neg hc44).trans ((if_pos hc69).trans ((if_pos hc83).trans rfl)))))))).trans (by decide : (0 : Int32) = ((0 : Int32) &&& 1))).symm, e0, rfl⟩
              · skip
                refine own_go (mkF m 86 #[iv x, iv y, iv z, iv (1 : Int32), iv (((x &&& (15 : Int32)) <<< ((12 : Int32) &&& 31)) ||| ((z &&& (63 : Int32)) <<< ((6 : Int32) &&& 31))), iv (1 : Int32), .unset] []) (fun t' k => XS.icmpNo X0.here hx rfl (hb hby own_d2_83) rfl (flt hc83).1 k) ?_
                refine own_go (mkF m 88 #[iv x, iv y, iv z, iv (1 : Int32), iv (((x &&& (15 : Int32)) <<< ((12 : Int32) &&& 31)) ||| ((z &&& (63 : Int32)) <<< ((6 : Int32) &&& 31))), iv (1 : Int32), .unset] [(.int (((x &&& (15 : Int32)) <<< ((12 : Int32) &&& 31)) ||| ((z &&& (63 : Int32)) <<< ((6 : Int32) &&& 31))))]) (fun t' k => XS.iload X0.here hx rfl (hb hby own_d2_86) rfl  k) ?_
                refine own_go (mkF m 90 #[iv x, iv y, iv z, iv (1 : Int32), iv (((x &&& (15 : Int32)) <<< ((12 : Int32) &&& 31)) ||| ((z &&& (63 : Int32)) <<< ((6 : Int32) &&& 31))), iv (1 : Int32), .unset] [(.int (57343 : Int32)), (.int (((x &&& (15 : Int32)) <<< ((12 : Int32) &&& 31)) ||| ((z &&& (63 : Int32)) <<< ((6 : Int32) &&& 31))))]) (fun t' k => X0.ldcInt hx hown (mvT hZ (hw _ (List.mem_of_getElem? (i := 9) rfl))) (g := (mkF m 88 #[iv x, iv y, iv z, iv (1 : Int32), iv (((x &&& (15 : Int32)) <<< ((12 : Int32) &&& 31)) ||| ((z &&& (63 : Int32)) <<< ((6 : Int32) &&& 31))), iv (1 : Int32), .unset] [(.int (((x &&& (15 : Int32)) <<< ((12 : Int32) &&& 31)) ||| ((z &&& (63 : Int32)) <<< ((6 : Int32) &&& 31))))])) rfl (hb hby own_d2_88) _ k) ?_
                by_cases hc90 : (57343 : Int32) < (((x &&& (15 : Int32)) <<< ((12 : Int32) &&& 31)) ||| ((z &&& (63 : Int32)) <<< ((6 : Int32) &&& 31)))
                · skip
                  refine own_go (mkF m 97 #[iv x, iv y, iv z, iv (1 : Int32), iv (((x &&& (15 : Int32)) <<< ((12 : Int32) &&& 31)) ||| ((z &&& (63 : Int32)) <<< ((6 : Int32) &&& 31))), iv (1 : Int32), .unset] []) (fun t' k => XS.icmpYes X0.here hx rfl (pc0 := 90) (pc' := 97) rfl (hb hby own_d2_90) rfl (tlt hc90).2.2.1 (by decide) (by decide) k) ?_
                  refine own_go (mkF m 98 #[iv x, iv y, iv z, iv (1 : Int32), iv (((x &&& (15 : Int32)) <<< ((12 : Int32) &&& 31)) ||| ((z &&& (63 : Int32)) <<< ((6 : Int32) &&& 31))), iv (1 : Int32), .unset] [(.int (0 : Int32))]) (fun t' k => XS.iconst X0.here hx rfl (hb hby own_d2_97) k) ?_
                  refine own_go (mkF m 100 #[iv x, iv y, iv z, iv (1 : Int32), iv (((x &&& (15 : Int32)) <<< ((12 : Int32) &&& 31)) ||| ((z &&& (63 : Int32)) <<< ((6 : Int32) &&& 31))), iv (1 : Int32), iv (0 : Int32)] []) (fun t' k => XS.istore X0.here hx rfl (hb hby own_d2_98) rfl (l' := #[iv x, iv y, iv z, iv (1 : Int32), iv (((x &&& (15 : Int32)) <<< ((12 : Int32) &&& 31)) ||| ((z &&& (63 : Int32)) <<< ((6 : Int32) &&& 31))), iv (1 : Int32), iv (0 : Int32)]) rfl k) ?_
                  refine own_go (mkF m 102 #[iv x, iv y, iv z, iv (1 : Int32), iv (((x &&& (15 : Int32)) <<< ((12 : Int32) &&& 31)) ||| ((z &&& (63 : Int32)) <<< ((6 : Int32) &&& 31))), iv (1 : Int32), iv (0 : Int32)] [(.int (1 : Int32))]) (fun t' k => XS.iload X0.here hx rfl (hb hby own_d2_100) rfl  k) ?_
                  refine own_go (mkF m 114 #[iv x, iv y, iv z, iv (1 : Int32), iv (((x &&& (15 : Int32)) <<< ((12 : Int32) &&& 31)) ||| ((z &&& (63 : Int32)) <<< ((6 : Int32) &&& 31))), iv (1 : Int32), iv (0 : Int32)] []) (fun t' k => XS.ifYes X0.here hx rfl (pc0 := 102) (pc' := 114) rfl (hb hby own_d2_102) rfl ((if0 _ _).trans (feq (by decide)).2) (by decide) (by decide) k) ?_
                  refine own_go (mkF m 115 #[iv x, iv y, iv z, iv (1 : Int32), iv (((x &&& (15 : Int32)) <<< ((12 : Int32) &&& 31)) ||| ((z &&& (63 : Int32)) <<< ((6 : Int32) &&& 31))), iv (1 : Int32), iv (0 : Int32)] [(.int (0 : Int32))]) (fun t' k => XS.iconst X0.here hx rfl (hb hby own_d2_114) k) ?_
                  refine own_retZ X0 hx hlk hret (hb hby own_d2_115) ?_ (by decide) (by decide)
                  exact ⟨congrArg (fun z => some (Value.int z)) ((show (own_expd x y z) = (0 : Int32) from ((if_neg hc4).trans ((if_neg hc11).trans ((if_pos hc28).trans ((if_neg hc37).trans ((if_neg hc44).trans ((if_pos hc69).trans ((if_neg hc83).trans ((if_pos hc90).trans rfl))))))))).trans (by decide : (0 : Int32) = ((0 : Int32) &&& 1))).symm, e0, rfl⟩
                · skip
                  refine own_go (mkF m 93 #[iv x, iv y, iv z, iv (1 : Int32), iv (((x &&& (15 : Int32)) <<< ((12 : Int32) &&& 31)) ||| ((z &&& (63 : Int32)) <<< ((6 : Int32) &&& 31))), iv (1 : Int32), .unset] []) (fun t' k => XS.icmpNo X0.here hx rfl (hb hby own_d2_90) rfl (flt hc90).2.2.1 k) ?_
                  refine own_go (mkF m 94 #[iv x, iv y, iv z, iv (1 : Int32), iv (((x &&& (15 : Int32)) <<< ((12 : Int32) &&& 31)) ||| ((z &&& (63 : Int32)) <<< ((6 : Int32) &&& 31))), iv (1 : Int32), .unset] [(.int (1 : Int32))]) (fun t' k => XS.iconst X0.here hx rfl (hb hby own_d2_93) k) ?_
                  refine own_go (mkF m 98 #[iv x, iv y, iv z, iv (1 : Int32), iv (((x &&& (15 : Int32)) <<< ((12 : Int32) &&& 31)) ||| ((z &&& (63 : Int32)) <<< ((6 : Int32) &&& 31))), iv (1 : Int32), .unset] [(.int (1 : Int32))]) (fun t' k => XS.goto X0.here hx rfl (pc0 := 94) (pc' := 98) rfl (hb hby own_d2_94) (by decide) (by decide) k) ?_
                  refine own_go (mkF m 100 #[iv x, iv y, iv z, iv (1 : Int32), iv (((x &&& (15 : Int32)) <<< ((12 : Int32) &&& 31)) ||| ((z &&& (63 : Int32)) <<< ((6 : Int32) &&& 31))), iv (1 : Int32), iv (1 : Int32)] []) (fun t' k => XS.istore X0.here hx rfl (hb hby own_d2_98) rfl (l' := #[iv x, iv y, iv z, iv (1 : Int32), iv (((x &&& (15 : Int32)) <<< ((12 : Int32) &&& 31)) ||| ((z &&& (63 : Int32)) <<< ((6 : Int32) &&& 31))), iv (1 : Int32), iv (1 : Int32)]) rfl k) ?_
                  refine own_go (mkF m 102 #[iv x, iv y, iv z, iv (1 : Int32), iv (((x &&& (15 : Int32)) <<< ((12 : Int32) &&& 31)) ||| ((z &&& (63 : Int32)) <<< ((6 : Int32) &&& 31))), iv (1 : Int32), iv (1 : Int32)] [(.int (1 : Int32))]) (fun t' k => XS.iload X0.here hx rfl (hb hby own_d2_100) rfl  k) ?_
                  refine own_go (mkF m 114 #[iv x, iv y, iv z, iv (1 : Int32), iv (((x &&& (15 : Int32)) <<< ((12 : Int32) &&& 31)) ||| ((z &&& (63 : Int32)) <<< ((6 : Int32) &&& 31))), iv (1 : Int32), iv (1 : Int32)] []) (fun t' k => XS.ifYes X0.here hx rfl (pc0 := 102) (pc' := 114) rfl (hb hby own_d2_102) rfl ((if0 _ _).trans (feq (by decide)).2) (by decide) (by decide) k) ?_
                  refine own_go (mkF m 115 #[iv x, iv y, iv z, iv (1 : Int32), iv (((x &&& (15 : Int32)) <<< ((12 : Int32) &&& 31)) ||| ((z &&& (63 : Int32)) <<< ((6 : Int32) &&& 31))), iv (1 : Int32), iv (1 : Int32)] [(.int (0 : Int32))]) (fun t' k => XS.iconst X0.here hx rfl (hb hby own_d2_114) k) ?_
                  refine own_retZ X0 hx hlk hret (hb hby own_d2_115) ?_ (by decide) (by decide)
                  exact ⟨congrArg (fun z => some (Value.int z)) ((show (own_expd x y z) = (0 : Int32) from ((if_neg hc4).trans ((if_neg hc11).trans ((if_pos hc28).trans ((if_neg hc37).trans ((if_neg hc44).trans ((if_pos hc69).trans ((if_neg hc83).trans ((if_neg hc90).trans rfl))))))))).trans (by decide : (0 : Int32) = ((0 : Int32) &&& 1))).symm, e0, rfl⟩
            · skip
              refine own_go (mkF m 76 #[iv x, iv y, iv z, iv (1 : Int32), iv (((x &&& (15 : Int32)) <<< ((12 : Int32) &&& 31)) ||| ((z &&& (63 : Int32)) <<< ((6 : Int32) &&& 31))), .unset, .unset] []) (fun t' k => XS.icmpYes X0.here hx rfl (pc0 := 69) (pc' := 76) rfl (hb hby own_d2_69) rfl (flt hc69).2.1 (by decide) (by decide) k) ?_
              refine own_go (mkF m 77 #[iv x, iv y, iv z, iv (1 : Int32), iv (((x &&& (15 : Int32)) <<< ((12 : Int32) &&& 31)) ||| ((z &&& (63 : Int32)) <<< ((6 : Int32) &&& 31))), .unset, .unset] [(.int (0 : Int32))]) (fun t' k => XS.iconst X0.here hx rfl (hb hby own_d2_76) k) ?_
              refine own_go (mkF m 79 #[iv x, iv y, iv z, iv (1 : Int32), iv (((x &&& (15 : Int32)) <<< ((12 : Int32) &&& 31)) ||| ((z &&& (63 : Int32)) <<< ((6 : Int32) &&& 31))), iv (0 : Int32), .unset] []) (fun t' k => XS.istore X0.here hx rfl (hb hby own_d2_77) rfl (l' := #[iv x, iv y, iv z, iv (1 : Int32), iv (((x &&& (15 : Int32)) <<< ((12 : Int32) &&& 31)) ||| ((z &&& (63 : Int32)) <<< ((6 : Int32) &&& 31))), iv (0 : Int32), .unset]) rfl k) ?_
              refine own_go (mkF m 81 #[iv x, iv y, iv z, iv (1 : Int32), iv (((x &&& (15 : Int32)) <<< ((12 : Int32) &&& 31)) ||| ((z &&& (63 : Int32)) <<< ((6 : Int32) &&& 31))), iv (0 : Int32), .unset] [(.int (((x &&& (15 : Int32)) <<< ((12 : Int32) &&& 31)) ||| ((z &&& (63 : Int32)) <<< ((6 : Int32) &&& 31))))]) (fun t' k => XS.iload X0.here hx rfl (hb hby own_d2_79) rfl  k) ?_
              refine own_go (mkF m 83 #[iv x, iv y, iv z, iv (1 : Int32), iv (((x &&& (15 : Int32)) <<< ((12 : Int32) &&& 31)) ||| ((z &&& (63 : Int32)) <<< ((6 : Int32) &&& 31))), iv (0 : Int32), .unset] [(.int (55296 : Int32)), (.int (((x &&& (15 : Int32)) <<< ((12 : Int32) &&& 31)) ||| ((z &&& (63 : Int32)) <<< ((6 : Int32) &&& 31))))]) (fun t' k => X0.ldcInt hx hown (mvT hZ (hw _ (List.mem_of_getElem? (i := 8) rfl))) (g := (mkF m 81 #[iv x, iv y, iv z, iv (1 : Int32), iv (((x &&& (15 : Int32)) <<< ((12 : Int32) &&& 31)) ||| ((z &&& (63 : Int32)) <<< ((6 : Int32) &&& 31))), iv (0 : Int32), .unset] [(.int (((x &&& (15 : Int32)) <<< ((12 : Int32) &&& 31)) ||| ((z &&& (63 : Int32)) <<< ((6 : Int32) &&& 31))))])) rfl (hb hby own_d2_81) _ k) ?_
              by_cases hc83 : (((x &&& (15 : Int32)) <<< ((12 : Int32) &&& 31)) ||| ((z &&& (63 : Int32)) <<< ((6 : Int32) &&& 31))) < (55296 : Int32)
              · skip
                refine own_go (mkF m 97 #[iv x, iv y, iv z, iv (1 : Int32), iv (((x &&& (15 : Int32)) <<< ((12 : Int32) &&& 31)) ||| ((z &&& (63 : Int32)) <<< ((6 : Int32) &&& 31))), iv (0 : Int32), .unset] []) (fun t' k => XS.icmpYes X0.here hx rfl (pc0 := 83) (pc' := 97) rfl (hb hby own_d2_83) rfl (tlt hc83).1 (by decide) (by decide) k) ?_
                refine own_go (mkF m 98 #[iv x, iv y, iv z, iv (1 : Int32), iv (((x &&& (15 : Int32)) <<< ((12 : Int32) &&& 31)) ||| ((z &&& (63 : Int32)) <<< ((6 : Int32) &&& 31))), iv (0 : Int32), .unset] [(.int (0 : Int32))]) (fun t' k => XS.iconst X0.here hx rfl (hb hby own_d2_97) k) ?_
                refine own_go (mkF m 100 #[iv x, iv y, iv z, iv (1 : Int32), iv (((x &&& (15 : Int32)) <<< ((12 : Int32) &&& 31)) ||| ((z &&& (63 : Int32)) <<< ((6 : Int32) &&& 31))), iv (0 : Int32), iv (0 : Int32)] []) (fun t' k => XS.istore X0.here hx rfl (hb hby own_d2_98) rfl (l' := #[iv x, iv y, iv z, iv (1 : Int32), iv (((x &&& (15 : Int32)) <<< ((12 : Int32) &&& 31)) ||| ((z &&& (63 : Int32)) <<< ((6 : Int32) &&& 31))), iv (0 : Int32), iv (0 : Int32)]) rfl k) ?_
                refine own_go (mkF m 102 #[iv x, iv y, iv z, iv (1 : Int32), iv (((x &&& (15 : Int32)) <<< ((12 : Int32) &&& 31)) ||| ((z &&& (63 : Int32)) <<< ((6 : Int32) &&& 31))), iv (0 : Int32), iv (0 : Int32)] [(.int (0 : Int32))]) (fun t' k => XS.iload X0.here hx rfl (hb hby own_d2_100) rfl  k) ?_
                refine own_go (mkF m 105 #[iv x, iv y, iv z, iv (1 : Int32), iv (((x &&& (15 : Int32)) <<< ((12 : Int32) &&& 31)) ||| ((z &&& (63 : Int32)) <<< ((6 : Int32) &&& 31))), iv (0 : Int32), iv (0 : Int32)] []) (fun t' k => XS.ifNo X0.here hx rfl (hb hby own_d2_102) rfl ((if0 _ _).trans (teq (by decide)).2) k) ?_
                refine own_go (mkF m 107 #[iv x, iv y, iv z, iv (1 : Int32), iv (((x &&& (15 : Int32)) <<< ((12 : Int32) &&& 31)) ||| ((z &&& (63 : Int32)) <<< ((6 : Int32) &&& 31))), iv (0 : Int32), iv (0 : Int32)] [(.int (0 : Int32))]) (fun t' k => XS.iload X0.here hx rfl (hb hby own_d2_105) rfl  k) ?_
                refine own_go (mkF m 110 #[iv x, iv y, iv z, iv (1 : Int32), iv (((x &&& (15 : Int32)) <<< ((12 : Int32) &&& 31)) ||| ((z &&& (63 : Int32)) <<< ((6 : Int32) &&& 31))), iv (0 : Int32), iv (0 : Int32)] []) (fun t' k => XS.ifNo X0.here hx rfl (hb hby own_d2_107) rfl ((if0 _ _).trans (teq (by decide)).2) k) ?_
                refine own_go (mkF m 111 #[iv x, iv y, iv z, iv (1 : Int32), iv (((x &&& (15 : Int32)) <<< ((12 : Int32) &&& 31)) ||| ((z &&& (63 : Int32)) <<< ((6 : Int32) &&& 31))), iv (0 : Int32), iv (0 : Int32)] [(.int (1 : Int32))]) (fun t' k => XS.iconst X0.here hx rfl (hb hby own_d2_110) k) ?_
                refine own_go (mkF m 115 #[iv x, iv y, iv z, iv (1 : Int32), iv (((x &&& (15 : Int32)) <<< ((12 : Int32) &&& 31)) ||| ((z &&& (63 : Int32)) <<< ((6 : Int32) &&& 31))), iv (0 : Int32), iv (0 : Int32)] [(.int (1 : Int32))]) (fun t' k => XS.goto X0.here hx rfl (pc0 := 111) (pc' := 115) rfl (hb hby own_d2_111) (by decide) (by decide) k) ?_
                refine own_retZ X0 hx hlk hret (hb hby own_d2_115) ?_ (by decide) (by decide)
                exact ⟨congrArg (fun z => some (Value.int z)) ((show (own_expd x y z) = (1 : Int32) from ((if_neg hc4).trans ((if_neg hc11).trans ((if_pos hc28).trans ((if_neg hc37).trans ((if_neg hc44).trans ((if_neg hc69).trans ((if_pos hc83).trans rfl)))))))).trans (by decide : (1 : Int32) = ((1 : Int32) &&& 1))).symm, e0, rfl⟩
              · skip
                refine own_go (mkF m 86 #[iv x, iv y, iv z, iv (1 : Int32), iv (((x &&& (15 : Int32)) <<< ((12 : Int32) &&& 31)) ||| ((z &&& (63 : Int32)) <<< ((6 : Int32) &&& 31))), iv (0 : Int32), .unset] []) (fun t' k => XS.icmpNo X0.here hx rfl (hb hby own_d2_83) rfl (flt hc83).1 k) ?_
                refine own_go (mkF m 88 #[iv x, iv y, iv z, iv (1 : Int32), iv (((x &&& (15 : Int32)) <<< ((12 : Int32) &&& 31)) ||| ((z &&& (63 : Int32)) <<< ((6 : Int32) &&& 31))), iv (0 : Int32), .unset] [(.int (((x &&& (15 : Int32)) <<< ((12 : Int32) &&& 31)) ||| ((z &&& (63 : Int32)) <<< ((6 : Int32) &&& 31))))]) (fun t' k => XS.iload X0.here hx rfl (hb hby own_d2_86) rfl  k) ?_
                refine own_go (mkF m 90 #[iv x, iv y, iv z, iv (1 : Int32), iv (((x &&& (15 : Int32)) <<< ((12 : Int32) &&& 31)) ||| ((z &&& (63 : Int32)) <<< ((6 : Int32) &&& 31))), iv (0 : Int32), .unset] [(.int (57343 : Int32)), (.int (((x &&& (15 : Int32)) <<< ((12 : Int32) &&& 31)) ||| ((z &&& (63 : Int32)) <<< ((6 : Int32) &&& 31))))]) (fun t' k => X0.ldcInt hx hown (mvT hZ (hw _ (List.mem_of_getElem? (i := 9) rfl))) (g := (mkF m 88 #[iv x, iv y, iv z, iv (1 : Int32), iv (((x &&& (15 : Int32)) <<< ((12 : Int32) &&& 31)) ||| ((z &&& (63 : Int32)) <<< ((6 : Int32) &&& 31))), iv (0 : Int32), .unset] [(.int (((x &&& (15 : Int32)) <<< ((12 : Int32) &&& 31)) ||| ((z &&& (63 : Int32)) <<< ((6 : Int32) &&& 31))))])) rfl (hb hby own_d2_88) _ k) ?_
                by_cases hc90 : (57343 : Int32) < (((x &&& (15 : Int32)) <<< ((12 : Int32) &&& 31)) ||| ((z &&& (63 : Int32)) <<< ((6 : Int32) &&& 31)))
                · skip
                  refine own_go (mkF m 97 #[iv x, iv y, iv z, iv (1 : Int32), iv (((x &&& (15 : Int32)) <<< ((12 : Int32) &&& 31)) ||| ((z &&& (63 : Int32)) <<< ((6 : Int32) &&& 31))), iv (0 : Int32), .unset] []) (fun t' k => XS.icmpYes X0.here hx rfl (pc0 := 90) (pc' := 97) rfl (hb hby own_d2_90) rfl (tlt hc90).2.2.1 (by decide) (by decide) k) ?_
                  refine own_go (mkF m 98 #[iv x, iv y, iv z, iv (1 : Int32), iv (((x &&& (15 : Int32)) <<< ((12 : Int32) &&& 31)) ||| ((z &&& (63 : Int32)) <<< ((6 : Int32) &&& 31))), iv (0 : Int32), .unset] [(.int (0 : Int32))]) (fun t' k => XS.iconst X0.here hx rfl (hb hby own_d2_97) k) ?_
                  refine own_go (mkF m 100 #[iv x, iv y, iv z, iv (1 : Int32), iv (((x &&& (15 : Int32)) <<< ((12 : Int32) &&& 31)) ||| ((z &&& (63 : Int32)) <<< ((6 : Int32) &&& 31))), iv (0 : Int32), iv (0 : Int32)] []) (fun t' k => XS.istore X0.here hx rfl (hb hby own_d2_98) rfl (l' := #[iv x, iv y, iv z, iv (1 : Int32), iv (((x &&& (15 : Int32)) <<< ((12 : Int32) &&& 31)) ||| ((z &&& (63 : Int32)) <<< ((6 : Int32) &&& 31))), iv (0 : Int32), iv (0 : Int32)]) rfl k) ?_
                  refine own_go (mkF m 102 #[iv x, iv y, iv z, iv (1 : Int32), iv (((x &&& (15 : Int32)) <<< ((12 : Int32) &&& 31)) ||| ((z &&& (63 : Int32)) <<< ((6 : Int32) &&& 31))), iv (0 : Int32), iv (0 : Int32)] [(.int (0 : Int32))]) (fun t' k => XS.iload X0.here hx rfl (hb hby own_d2_100) rfl  k) ?_
                  refine own_go (mkF m 105 #[iv x, iv y, iv z, iv (1 : Int32), iv (((x &&& (15 : Int32)) <<< ((12 : Int32) &&& 31)) ||| ((z &&& (63 : Int32)) <<< ((6 : Int32) &&& 31))), iv (0 : Int32), iv (0 : Int32)] []) (fun t' k => XS.ifNo X0.here hx rfl (hb hby own_d2_102) rfl ((if0 _ _).trans (teq (by decide)).2) k) ?_
                  refine own_go (mkF m 107 #[iv x, iv y, iv z, iv (1 : Int32), iv (((x &&& (15 : Int32)) <<< ((12 : Int32) &&& 31)) ||| ((z &&& (63 : Int32)) <<< ((6 : Int32) &&& 31))), iv (0 : Int32), iv (0 : Int32)] [(.int (0 : Int32))]) (fun t' k => XS.iload X0.here hx rfl (hb hby own_d2_105) rfl  k) ?_
                  refine own_go (mkF m 110 #[iv x, iv y, iv z, iv (1 : Int32), iv (((x &&& (15 : Int32)) <<< ((12 : Int32) &&& 31)) ||| ((z &&& (63 : Int32)) <<< ((6 : Int32) &&& 31))), iv (0 : Int32), iv (0 : Int32)] []) (fun t' k => XS.ifNo X0.here hx rfl (hb hby own_d2_107) rfl ((if0 _ _).trans (teq (by decide)).2) k) ?_
                  refine own_go (mkF m 111 #[iv x, iv y, iv z, iv (1 : Int32), iv (((x &&& (15 : Int32)) <<< ((12 : Int32) &&& 31)) ||| ((z &&& (63 : Int32)) <<< ((6 : Int32) &&& 31))), iv (0 : Int32), iv (0 : Int32)] [(.int (1 : Int32))]) (fun t' k => XS.iconst X0.here hx rfl (hb hby own_d2_110) k) ?_
                  refine own_go (mkF m 115 #[iv x, iv y, iv z, iv (1 : Int32), iv (((x &&& (15 : Int32)) <<< ((12 : Int32) &&& 31)) ||| ((z &&& (63 : Int32)) <<< ((6 : Int32) &&& 31))), iv (0 : Int32), iv (0 : Int32)] [(.int (1 : Int32))]) (fun t' k => XS.goto X0.here hx rfl (pc0 := 111) (pc' := 115) rfl (hb hby own_d2_111) (by decide) (by decide) k) ?_
                  refine own_retZ X0 hx hlk hret (hb hby own_d2_115) ?_ (by decide) (by decide)
                  exact ⟨congrArg (fun z => some (Value.int z)) ((show (own_expd x y z) = (1 : Int32) from ((if_neg hc4).trans ((if_neg hc11).trans ((if_pos hc28).trans ((if_neg hc37).trans ((if_neg hc44).trans ((if_neg hc69).trans ((if_neg hc83).trans ((if_pos hc90).trans rfl))))))))).trans (by decide : (1 : Int32) = ((1 : Int32) &&& 1))).symm, e0, rfl⟩
                · skip
                  refine own_go (mkF m 93 #[iv x, iv y, iv z, iv (1 : Int32), iv (((x &&& (15 : Int32)) <<< ((12 : Int32) &&& 31)) ||| ((z &&& (63 : Int32)) <<< ((6 : Int32) &&& 31))), iv (0 : Int32), .unset] []) (fun t' k => XS.icmpNo X0.here hx rfl (hb hby own_d2_90) rfl (flt hc90).2.2.1 k) ?_
                  refine own_go (mkF m 94 #[iv x, iv y, iv z, iv (1 : Int32), iv (((x &&& (15 : Int32)) <<< ((12 : Int32) &&& 31)) ||| ((z &&& (63 : Int32)) <<< ((6 : Int32) &&& 31))), iv (0 : Int32), .unset] [(.int (1 : Int32))]) (fun t' k => XS.iconst X0.here hx rfl (hb hby own_d2_93) k) ?_
                  refine own_go (mkF m 98 #[iv x, iv y, iv z, iv (1 : Int32), iv (((x &&& (15 : Int32)) <<< ((12 : Int32) &&& 31)) ||| ((z &&& (63 : Int32)) <<< ((6 : Int32) &&& 31))), iv (0 : Int32), .unset] [(.int (1 : Int32))]) (fun t' k => XS.goto X0.here hx rfl (pc0 := 94) (pc' := 98) rfl (hb hby own_d2_94) (by decide) (by decide) k) ?_
                  refine own_go (mkF m 100 #[iv x, iv y, iv z, iv (1 : Int32), iv (((x &&& (15 : Int32)) <<< ((12 : Int32) &&& 31)) ||| ((z &&& (63 : Int32)) <<< ((6 : Int32) &&& 31))), iv (0 : Int32), iv (1 : Int32)] []) (fun t' k => XS.istore X0.here hx rfl (hb hby own_d2_98) rfl (l' := #[iv x, iv y, iv z, iv (1 : Int32), iv (((x &&& (15 : Int32)) <<< ((12 : Int32) &&& 31)) ||| ((z &&& (63 : Int32)) <<< ((6 : Int32) &&& 31))), iv (0 : Int32), iv (1 : Int32)]) rfl k) ?_
                  refine own_go (mkF m 102 #[iv x, iv y, iv z, iv (1 : Int32), iv (((x &&& (15 : Int32)) <<< ((12 : Int32) &&& 31)) ||| ((z &&& (63 : Int32)) <<< ((6 : Int32) &&& 31))), iv (0 : Int32), iv (1 : Int32)] [(.int (0 : Int32))]) (fun t' k => XS.iload X0.here hx rfl (hb hby own_d2_100) rfl  k) ?_
                  refine own_go (mkF m 105 #[iv x, iv y, iv z, iv (1 : Int32), iv (((x &&& (15 : Int32)) <<< ((12 : Int32) &&& 31)) ||| ((z &&& (63 : Int32)) <<< ((6 : Int32) &&& 31))), iv (0 : Int32), iv (1 : Int32)] []) (fun t' k => XS.ifNo X0.here hx rfl (hb hby own_d2_102) rfl ((if0 _ _).trans (teq (by decide)).2) k) ?_
                  refine own_go (mkF m 107 #[iv x, iv y, iv z, iv (1 : Int32), iv (((x &&& (15 : Int32)) <<< ((12 : Int32) &&& 31)) ||| ((z &&& (63 : Int32)) <<< ((6 : Int32) &&& 31))), iv (0 : Int32), iv (1 : Int32)] [(.int (1 : Int32))]) (fun t' k => XS.iload X0.here hx rfl (hb hby own_d2_105) rfl  k) ?_
                  refine own_go (mkF m 114 #[iv x, iv y, iv z, iv (1 : Int32), iv (((x &&& (15 : Int32)) <<< ((12 : Int32) &&& 31)) ||| ((z &&& (63 : Int32)) <<< ((6 : Int32) &&& 31))), iv (0 : Int32), iv (1 : Int32)] []) (fun t' k => XS.ifYes X0.here hx rfl (pc0 := 107) (pc' := 114) rfl (hb hby own_d2_107) rfl ((if0 _ _).trans (feq (by decide)).2) (by decide) (by decide) k) ?_
                  refine own_go (mkF m 115 #[iv x, iv y, iv z, iv (1 : Int32), iv (((x &&& (15 : Int32)) <<< ((12 : Int32) &&& 31)) ||| ((z &&& (63 : Int32)) <<< ((6 : Int32) &&& 31))), iv (0 : Int32), iv (1 : Int32)] [(.int (0 : Int32))]) (fun t' k => XS.iconst X0.here hx rfl (hb hby own_d2_114) k) ?_
                  refine own_retZ X0 hx hlk hret (hb hby own_d2_115) ?_ (by decide) (by decide)
                  exact ⟨congrArg (fun z => some (Value.int z)) ((show (own_expd x y z) = (0 : Int32) from ((if_neg hc4).trans ((if_neg hc11).trans ((if_pos hc28).trans ((if_neg hc37).trans ((if_neg hc44).trans ((if_neg hc69).trans ((if_neg hc83).trans ((if_neg hc90).trans rfl))))))))).trans (by decide : (0 : Int32) = ((0 : Int32) &&& 1))).symm, e0, rfl⟩
      · skip
        refine own_go (mkF m 31 #[iv x, iv y, iv z, iv (1 : Int32), .unset, .unset, .unset] []) (fun t' k => XS.icmpNo X0.here hx rfl (hb hby own_d2_28) rfl (feq hc28).1 k) ?_
        refine own_go (mkF m 32 #[iv x, iv y, iv z, iv (1 : Int32), .unset, .unset, .unset] [(.int (1 : Int32))]) (fun t' k => XS.iconst X0.here hx rfl (hb hby own_d2_31) k) ?_
        refine own_retZ X0 hx hlk hret (hb hby own_d2_32) ?_ (by decide) (by decide)
        exact ⟨congrArg (fun z => some (Value.int z)) ((show (own_expd x y z) = (1 : Int32) from ((if_neg hc4).trans ((if_neg hc11).trans ((if_neg hc28).trans rfl)))).trans (by decide : (1 : Int32) = ((1 : Int32) &&& 1))).symm, e0, rfl⟩


theorem own_e3 : ∀ i : Fin 16, ∀ j : Fin 64, own_cont (Int32.ofNat (224 + i.val)) 1 (Int32.ofNat (128 + j.val)) = own_expd (Int32.ofNat (224 + i.val)) 1 (Int32.ofNat (128 + j.val)) := by decide +kernel
theorem own_e4 : ∀ i : Fin 5, ∀ j : Fin 64, own_cont (Int32.ofNat (240 + i.val)) 1 (Int32.ofNat (128 + j.val)) = own_expd (Int32.ofNat (240 + i.val)) 1 (Int32.ofNat (128 + j.val)) := by decide +kernel
theorem own_as {x : Int32} (k n : Nat) (hk : k + n < 2 ^ 31) (h1 : (k : Int) ≤ x.toInt) (h2 : x.toInt < (k : Int) + n) : ∃ i : Fin n, x = Int32.ofNat (k + i.val) := by
  refine ⟨⟨x.toInt.toNat - k, by omega⟩, ?_⟩
  rw [← Int32.toInt_inj, Int32.toInt_ofNat_of_lt (by show k + (x.toInt.toNat - k) < 2 ^ 31; omega)]
  show x.toInt = ((k + (x.toInt.toNat - k) : Nat) : Int)
  omega
set_option maxHeartbeats 8000000 in
theorem own_law (x y z : Int32) : own_cont x y z = own_expd x y z := by
  have e32_128 : (128 : Int32).toInt = 128 := rfl
  have e32_191 : (191 : Int32).toInt = 191 := rfl
  have e32_1 : (1 : Int32).toInt = 1 := rfl
  have e32_0 : (0 : Int32).toInt = 0 := rfl
  have e32_224 : (224 : Int32).toInt = 224 := rfl
  have e32_237 : (237 : Int32).toInt = 237 := rfl
  have e32_240 : (240 : Int32).toInt = 240 := rfl
  have e32_244 : (244 : Int32).toInt = 244 := rfl
  have e32_160 : (160 : Int32).toInt = 160 := rfl
  have e32_159 : (159 : Int32).toInt = 159 := rfl
  have e32_144 : (144 : Int32).toInt = 144 := rfl
  have e32_143 : (143 : Int32).toInt = 143 := rfl
  have e32_239 : (239 : Int32).toInt = 239 := rfl
  by_cases hz : 128 ≤ z.toInt ∧ z.toInt ≤ 191
  · by_cases hy : y = 1
    · subst hy
      obtain ⟨j, rfl⟩ := own_as (x := z) 128 64 (by decide) (by omega) (by omega)
      by_cases h3 : 224 ≤ x.toInt ∧ x.toInt ≤ 239
      · obtain ⟨i, rfl⟩ := own_as (x := x) 224 16 (by decide) (by omega) (by omega)
        exact own_e3 i j
      · by_cases h4 : 240 ≤ x.toInt ∧ x.toInt ≤ 244
        · obtain ⟨i, rfl⟩ := own_as (x := x) 240 5 (by decide) (by omega) (by omega)
          exact own_e4 i j
        · generalize Int32.ofNat (128 + j.val) = z at *
          unfold own_cont own_expd
          simp only [Int32.lt_iff_toInt_lt, ← Int32.toInt_inj, e32_128, e32_191, e32_1, e32_0, e32_224, e32_237, e32_240, e32_244, e32_160, e32_159, e32_144, e32_143, e32_239] <;> (repeat' split) <;> first | rfl | omega
    · unfold own_cont own_expd
      simp only [if_neg hy, Int32.lt_iff_toInt_lt, e32_128, e32_191, e32_1, e32_0, e32_224, e32_237, e32_240, e32_244, e32_160, e32_159, e32_144, e32_143, e32_239] <;> (repeat' split) <;> first | rfl | omega
  · unfold own_cont own_expd
    simp only [Int32.lt_iff_toInt_lt, e32_128, e32_191, e32_1, e32_0, e32_224, e32_237, e32_240, e32_244, e32_160, e32_159, e32_144, e32_143, e32_239] <;> (repeat' split) <;> first | rfl | omega

theorem own_pn_own_rm0 : plainFor x = true := plainFor_of_name (show plainName "com/example/vocab_scan/vocabscan/Utf8ContinuesPinLaw" = true by first | (simp [plainName, overriddenIn]; done) | decide +kernel)
set_option maxRecDepth 65536 in
set_option maxHeartbeats 40000000 in
theorem own_rm0 (l : Launch) (Z : State) (a0 : Array Value) (hw : ∀ d ∈ tables_1, d.before a0 Z = true) (ws : List Jvm.Cond) (h0 : Heap) (x0 x1 x2 : Int32)  :
    own_C l Z x code maxLocals ret ws room_1 #[(.int x0), (.int x1), (.int x2)] h0 (fun v h L => v = some (.int 1) ∧ Fr h0.size L) := by
  refine own_met own_pn_own_rm0 #[iv x0, iv x1, iv x2] (fun m => by first | (simp [entryFrame, mkF, argsToLocals, Value.category, maxLocals]; done) | rfl) ?_
  intro p e s m below meth c s₁ hx hby hml hown hret hlk hZ hnm X0 e0
  replace hml : c.maxLocals = 3 := hml
  refine own_go (mkF m 1 #[iv x0, iv x1, iv x2] [(.int x0)]) (fun t' k => XS.iloadN X0.here hx rfl (hb hby at_0) rfl  k) ?_
  refine own_go (mkF m 2 #[iv x0, iv x1, iv x2] [(.int x1), (.int x0)]) (fun t' k => XS.iloadN X0.here hx rfl (hb hby at_1) rfl  k) ?_
  refine own_go (mkF m 3 #[iv x0, iv x1, iv x2] [(.int x2), (.int x1), (.int x0)]) (fun t' k => XS.iloadN X0.here hx rfl (hb hby at_2) rfl  k) ?_
  refine own_callP X0 hx hZ (y := (⟨"com/example/vocab_scan/vocabscan/Utf8", "continues", "(III)Z"⟩ : MethodName)) (fr := 0) (lo := 0) (r := (.int (own_cont x0 x1 x2))) hown (hw _ (List.mem_of_getElem? (i := 0) rfl)) (hw _ (List.mem_of_getElem? (i := 1) rfl)) (hw _ (List.mem_of_getElem? (i := 2) rfl)) (hw _ (List.mem_of_getElem? (i := 3) rfl)) (by decide) e0 [(.int x0), (.int x1), (.int x2)] [] (own_rm1 l Z a0 hw [] h0 x0 x1 x2) 0 (by decide) (by decide) (Nat.le_of_eq rfl) (by decide) (by decide) (by rw [hml]; rfl) (lenOf own_pd0 rfl) rfl (hb hby at_3) ?_
  intro T1 X1 e1
  refine own_go (mkF m 7 #[iv x0, iv x1, iv x2] [(.int x0), (.int (own_cont x0 x1 x2))]) (fun t' k => XS.iloadN X1.here hx rfl (hb hby at_6) rfl  k) ?_
  refine own_go (mkF m 8 #[iv x0, iv x1, iv x2] [(.int x1), (.int x0), (.int (own_cont x0 x1 x2))]) (fun t' k => XS.iloadN X1.here hx rfl (hb hby at_7) rfl  k) ?_
  refine own_go (mkF m 9 #[iv x0, iv x1, iv x2] [(.int x2), (.int x1), (.int x0), (.int (own_cont x0 x1 x2))]) (fun t' k => XS.iloadN X1.here hx rfl (hb hby at_8) rfl  k) ?_
  refine own_callP X1 hx hZ (y := (⟨"com/example/vocab_scan/vocabscan/Utf8ContinuesPinLaw", "expected", "(III)Z"⟩ : MethodName)) (fr := 0) (lo := 0) (r := (.int (own_expd x0 x1 x2))) hown (hw _ (List.mem_of_getElem? (i := 4) rfl)) (hw _ (List.mem_of_getElem? (i := 5) rfl)) (hw _ (List.mem_of_getElem? (i := 6) rfl)) (hw _ (List.mem_of_getElem? (i := 7) rfl)) (by decide) e1 [(.int x0), (.int x1), (.int x2)] [(.int (own_cont x0 x1 x2))] (own_rm2 l Z a0 hw [] h0 x0 x1 x2) 1 (by decide) (by decide) (Nat.le_of_eq rfl) (by decide) (by decide) (by rw [hml]; rfl) (lenOf own_pd0 rfl) rfl (hb hby at_9) ?_
  intro T2 X2 e2
  refine own_go (mkF m 15 #[iv x0, iv x1, iv x2] []) (fun t' k => XS.icmpNo X2.here hx rfl (hb hby at_12) rfl (teq (own_law x0 x1 x2)).2 k) ?_
  refine own_go (mkF m 16 #[iv x0, iv x1, iv x2] [(.int (1 : Int32))]) (fun t' k => XS.iconst X2.here hx rfl (hb hby at_15) k) ?_
  refine own_go (mkF m 20 #[iv x0, iv x1, iv x2] [(.int (1 : Int32))]) (fun t' k => XS.goto X2.here hx rfl (pc0 := 16) (pc' := 20) rfl (hb hby at_16) (by decide) (by decide) k) ?_
  refine own_retZ X2 hx hlk hret (hb hby at_20) ?_ (by decide) (by decide)
  exact ⟨rfl, Fr.nil _⟩

set_option maxRecDepth 65536 in
set_option maxHeartbeats 40000000 in
theorem comes_1 {Post : Tables → Env → Array Value → State → Outcome → State → Prop} (hpost : ∀ tb e args s v u, (limb_1_1.after args s (.returned v) u = true ∧ limb_1_2.after args s (.returned v) u = true ∧ True) → FrameEnd s (.returned v) u (Jvm.fieldLocs frame_1_writes args s ++ Jvm.arrayLocs frame_1_arrays args s ++ Jvm.staticLocs frame_1_statics s) 0 0 → Post tb e args s (.returned v) u) :
    ArmFor flags0 classFile x code maxLocals ret World_1 tables_1 room_1 Calls_1 rest_1 Pre_1 Post := by
  intro l hfl _ _ p e ha hc hk s m args below hf hA hF happ hP
  obtain ⟨hcalls, hrest, hpre⟩ := hP
  obtain ⟨-, -, -, hnamed, -, -, -, hat⟩ := (Spec.applies_iff hf).mp happ
  obtain ⟨hg, hn⟩ := and_e (Cond.before_iff.mp (show (Jvm.Cond.and given_1 narrow_1).before args s = true from hpre))
  obtain ⟨g1, g2⟩ := and_e hg
  obtain ⟨g3, g4⟩ := and_e g2
  obtain ⟨g5, g6⟩ := and_e g4
  obtain ⟨w0, w1, w2, rfl⟩ : ∃ w0 w1 w2 : Value, args = #[w0, w1, w2] := by
    have hs : args.size = 3 := by simpa [Cond.value, given_1] using g1
    obtain ⟨L⟩ := args
    match L, hs with
    | [w0, w1, w2], _ => exact ⟨w0, w1, w2, rfl⟩
  have hw := fun d (hd : d ∈ tables_1) => atoms_spec (ws := Jvm.Cond.code x code maxLocals ret :: tables_1) hat d (List.mem_cons_of_mem _ hd)
  obtain ⟨i0, ei0⟩ := is_v g3
  obtain rfl : w0 = (.int i0) := Option.some.inj ei0
  obtain ⟨i1, ei1⟩ := is_v g5
  obtain rfl : w1 = (.int i1) := Option.some.inj ei1
  obtain ⟨i2, ei2⟩ := is_v g6
  obtain rfl : w2 = (.int i2) := Option.some.inj ei2
  obtain ⟨n, o, h1, h2, h3, _, L, rfl, ⟨rfl, N⟩, hq⟩ := own_rm0 l s _ hw tables_1 s.heap i0 i1 i2  p e ha hc hk s m _ below hf ((Spec.applies_iff_loose hf).mp happ).1 ⟨rfl, State.Warmed39.refl s, rfl⟩ trivial
  refine ⟨n, _, h1, h2, h3, hpost _ _ _ _ _ _ ⟨Cond.after_iff.mpr rfl, Cond.after_iff.mpr (eq_i res_at (Term.int_eval (1)) rfl), trivial⟩ ⟨hq.1, hq.2.1, (hq.2.2.sift fun y hy => Or.inr (N y hy)).mono (by decide) (by decide)⟩⟩
theorem main_1_1 : Claimed_1_1 := comes_1 fun _ _ _ _ _ _ h hF => ⟨h.1, hF⟩
theorem main_1_2 : Claimed_1_2 := comes_1 fun _ _ _ _ _ _ h hF => ⟨h.2.1, hF⟩
end Jvm.Pilot.@@N@@
namespace Jvm.Pilot.@@N@@
open Jvm Jvm.ClassFile Sem Op Lib Jvm.Free Jvm.Stand Jvm.Pilot.@@N@@.Jvm.D
/-! MADE BY PROGRAM (witnessworld.py) out of the Statement's table words and the real class files: 9 classes; the members and pool entries that the words name. The judged class is class 1, her method 2. -/
namespace start1
open Jvm.ClassFile
def u (s : String) : CpInfo := .utf8 (stringToUtf16 s)
/-- a pool by its gaps: so many unusable entries, then the entry; so many at the end -/
def gap : Nat → List CpInfo → List CpInfo
  | 0, r => r
  | n + 1, r => .unusable :: gap n r
def poolList (es : List (Nat × CpInfo)) (last : Nat) : List CpInfo := es.foldr (fun e r => gap e.1 (e.2 :: r)) (gap last [])
def pool (es : List (Nat × CpInfo)) (last : Nat) : Array CpInfo := ⟨poolList es last⟩
def fileOf (pool : Array CpInfo) (this : Nat) (attrs : Array Attribute := #[]) (ms : Array MethodInfo := #[]) (fl : Nat := 33) (sup : Nat := 0) (ifs : Array Nat := #[]) (fds : Array FieldInfo := #[]) : ClassFile where
  minorVersion := 0
  majorVersion := 65
  constantPool := pool
  accessFlags := fl
  thisClass := this
  superClass := sup
  interfaces := ifs
  fields := fds
  methods := ms
  attributes := attrs
def plain (name : String) (sup : Option ClassId) : Class where
  name := name
  kind := .ordinary
  loader := none
  accessFlags := 33
  super := sup
  interfaces := #[]
  cf := none
  fields := #[]
  methods := #[]
  instanceTypes := #[]
  staticTypes := #[]
  resolved := #[]
  callSites := []
  init := .initialized
  statics := none
  mirror := none

def pool0 : Array CpInfo := pool [(5, u "<init>"), (0, u "()V"), (1, .class_ 10), (1, u "java/lang/Object")] 113

def k0m0 : Method := { name := "<init>", desc := "()V", sig := { parameters := [], returnType := none }, accessFlags := 1, code := none }
/-- java/lang/Object -/
def k0 : Class := { plain "java/lang/Object" none with
  accessFlags := 33
  interfaces := #[]
  cf := some (fileOf pool0 8 #[] #[{ accessFlags := 1, nameIndex := 5, descriptorIndex := 6, attributes := #[] }] 33 0 #[] #[])
  fields := #[]
  methods := #[k0m0]
  instanceTypes := #[]
  staticTypes := #[]
  resolved := Array.replicate 124 none
  statics := none }

def pool1 : Array CpInfo := pool [(2, .class_ 4), (1, u "java/lang/Object"), (0, u "<init>"), (0, u "()V"), (0, .integer 55296), (0, .integer 57343), (0, .integer 65536), (0, .integer 1114111), (0, .methodref 12 13), (0, .class_ 14), (0, .nameAndType 15 16), (0, u "com/example/vocab_scan/vocabscan/Utf8"), (0, u "continues"), (0, u "(III)Z"), (0, .methodref 18 19), (0, .class_ 20), (0, .nameAndType 21 16), (0, u "com/example/vocab_scan/vocabscan/Utf8ContinuesPinLaw"), (0, u "expected"), (3, u "law")] 2

def k1m0 : Method := { name := "<init>", desc := "()V", sig := { parameters := [], returnType := none }, accessFlags := 2, code := none }
def k1c1 : Code := { maxStack := 3, maxLocals := 7, code := method_2_code, exceptionTable := #[], attributes := #[] }
def k1m1 : Method := { name := "expected", desc := "(III)Z", sig := { parameters := [.int, .int, .int], returnType := some .boolean }, accessFlags := 10, code := some k1c1 }
def k1c2 : Code := { maxStack := 4, maxLocals := 3, code := code, exceptionTable := #[], attributes := #[] }
def k1m2 : Method := { name := "law", desc := "(III)Z", sig := { parameters := [.int, .int, .int], returnType := some .boolean }, accessFlags := 9, code := some k1c2 }
/-- com/example/vocab_scan/vocabscan/Utf8ContinuesPinLaw -/
def k1 : Class := { plain "com/example/vocab_scan/vocabscan/Utf8ContinuesPinLaw" (some 0) with
  accessFlags := 49
  interfaces := #[]
  cf := some (fileOf pool1 18 #[] #[{ accessFlags := 2, nameIndex := 5, descriptorIndex := 6, attributes := #[] }, { accessFlags := 10, nameIndex := 21, descriptorIndex := 16, attributes := #[] }, { accessFlags := 9, nameIndex := 25, descriptorIndex := 16, attributes := #[] }] 49 2 #[] #[])
  fields := #[]
  methods := #[k1m0, k1m1, k1m2]
  instanceTypes := #[]
  staticTypes := #[]
  resolved := Array.replicate 28 none
  statics := none }

def pool2 : Array CpInfo := pool [(2, .class_ 4), (1, u "java/lang/Object"), (0, u "<init>"), (0, u "()V"), (2, .class_ 11), (1, u "com/example/vocab_scan/vocabscan/Utf8"), (6, u "MOST_BYTES"), (0, u "I"), (6, u "continues"), (0, u "(III)Z")] 6

def k2m0 : Method := { name := "<init>", desc := "()V", sig := { parameters := [], returnType := none }, accessFlags := 2, code := none }
def k2c1 : Code := { maxStack := 2, maxLocals := 5, code := prog_79_method_3_code, exceptionTable := #[], attributes := #[] }
def k2m1 : Method := { name := "continues", desc := "(III)Z", sig := { parameters := [.int, .int, .int], returnType := some .boolean }, accessFlags := 8, code := some k2c1 }
/-- com/example/vocab_scan/vocabscan/Utf8 -/
def k2 : Class := { plain "com/example/vocab_scan/vocabscan/Utf8" (some 0) with
  accessFlags := 48
  interfaces := #[]
  cf := some (fileOf pool2 9 #[] #[{ accessFlags := 2, nameIndex := 5, descriptorIndex := 6, attributes := #[] }, { accessFlags := 8, nameIndex := 26, descriptorIndex := 27, attributes := #[] }] 48 2 #[] #[{ accessFlags := 24, nameIndex := 18, descriptorIndex := 19, attributes := #[] }])
  fields := #[{ name := "MOST_BYTES", type := .int, accessFlags := 24, slot := 0, constantValue := 0 }]
  methods := #[k2m0, k2m1]
  instanceTypes := #[]
  staticTypes := #[.int]
  resolved := Array.replicate 34 none
  statics := none }

def pool3 : Array CpInfo := pool [(1, u "java/lang/Cloneable"), (0, .class_ 1), (0, u "java/lang/Object"), (0, .class_ 3)] 3

/-- java/lang/Cloneable -/
def k3 : Class := { plain "java/lang/Cloneable" (some 0) with
  accessFlags := 1537
  interfaces := #[]
  cf := some (fileOf pool3 2 #[] #[] 1537 4 #[] #[])
  fields := #[]
  methods := #[]
  instanceTypes := #[]
  staticTypes := #[]
  resolved := Array.replicate 8 none
  statics := none }

def pool4 : Array CpInfo := pool [(1, u "java/io/Serializable"), (0, .class_ 1), (0, u "java/lang/Object"), (0, .class_ 3)] 3

/-- java/io/Serializable -/
def k4 : Class := { plain "java/io/Serializable" (some 0) with
  accessFlags := 1537
  interfaces := #[]
  cf := some (fileOf pool4 2 #[] #[] 1537 4 #[] #[])
  fields := #[]
  methods := #[]
  instanceTypes := #[]
  staticTypes := #[]
  resolved := Array.replicate 8 none
  statics := none }

/-- the primitive byte -/
def k5 : Class := { plain "byte" none with kind := .primitive 'B', accessFlags := 0x411 }
/-- [B -/
def k6 : Class := { plain "[B" (some 0) with kind := .array 5 .byte, interfaces := #[3, 4], accessFlags := 1041 }

/-- the primitive int -/
def k7 : Class := { plain "int" none with kind := .primitive 'I', accessFlags := 0x411 }
/-- [I -/
def k8 : Class := { plain "[I" (some 0) with kind := .array 7 .int, interfaces := #[3, 4], accessFlags := 1041 }

def heap : Heap := #[]
def classes : Array Class := #[k0, k1, k2, k3, k4, k5, k6, k7, k8]
def interned : List (Array UInt16 × Addr) := []
def slotsUsed : Nat := 0
def theMethod : MethodId := ⟨1, 2⟩
def args0 : Array Value := #[.int 224, .int 1, .int 165]
def aboutOver (below : List Frame) : State where
  vm := { classes := classes, interned := interned.toArray }
  heap := heap
  slotsUsed := slotsUsed
  threads := #[{ frames := .invoking theMethod args0 :: below }]
def below0 : List Frame := [.native { method := ⟨0, 0⟩, args := #[] }]
def about1 : State := aboutOver below0
def p0 : Program := .bare "" "" ""
def e0 : Env := launch0.env 0 0 0
theorem w_frames : about1.frames = Frame.invoking theMethod args0 :: below0 := rfl
set_option maxRecDepth 65536 in
theorem w_args : argsFit about1.vm theMethod args0 = true := by decide +kernel
set_option maxRecDepth 65536 in
theorem w_heap : heapFits about1 = true := by decide +kernel
set_option maxRecDepth 65536 in
theorem w_runnable : about1.curStatus? = some .runnable := by decide +kernel
set_option maxRecDepth 65536 in
theorem w_alone : about1.alone = true := by decide +kernel
set_option maxRecDepth 65536 in
theorem w_named : about1.methodNamed? x = some theMethod := by decide +kernel
set_option maxRecDepth 65536 in
theorem w_hears : about1.hears theMethod below0 = true := by decide +kernel
set_option maxRecDepth 65536 in
theorem w_ripe : about1.ripe theMethod args0 below0 = true := by decide +kernel
theorem w_running : about1.status = .running := rfl
set_option maxRecDepth 65536 in
theorem w_room : about1.hasRoom e0.platform room_1 = true :=
  launch0.hasRoom_least _ room_1 (by decide +kernel) (by decide +kernel) (by decide +kernel) (by decide +kernel) (by decide +kernel) (by decide +kernel)
theorem allAtoms_all (ts : List Jvm.Cond) (a : Array Jvm.Value) (st : Jvm.State) : (allAtoms ts).before a st = ts.all (fun c => c.before a st) := by
  induction ts with
  | nil => rfl
  | cons c t ih =>
    show (Jvm.Cond.and c (allAtoms t)).before a st = _
    rw [Jvm.Cond.before_and, ih, List.all_cons]
def words1 : List Jvm.Cond := Jvm.Cond.code x code maxLocals ret :: tables_1
/-- a 'code' word, met by the world's own term for the bytes: nothing is compared byte by byte -/
theorem code_word {y : MethodName} {bytes : ByteArray} {mx : Nat} {rt : Option FieldType} {a : Array Value} {s : State} {m : MethodId} {meth : Method} {c : Code} (h1 : s.methodNamed? y = some m) (h2 : s.vm.method? m = some meth) (h3 : meth.code = some c) (h4 : c.code = bytes)
    (h5 : (c.maxLocals == mx && c.exceptionTable.isEmpty && decide (c.maxStack ≤ mostOperands) && decide (meth.sig.returnType = rt) && !meth.locks && decide (parseMethodDescriptor y.desc = some meth.sig)) = true) : (Jvm.Cond.code y bytes mx rt).before a s = true := by
  simp only [Bool.and_eq_true, beq_iff_eq, Bool.not_eq_true', decide_eq_true_eq] at h5
  obtain ⟨⟨⟨⟨⟨g1, g2⟩, g3⟩, g4⟩, g5⟩, g6⟩ := h5
  simp [Cond.before, Cond.holds, Cond.value, h1, h2, h3, h4, g1, g2, g3, g4, g5, g6]
def isCode : Jvm.Cond → Bool
  | .code _ _ _ _ => true
  | _ => false
theorem all_split {L : List Jvm.Cond} {P : Jvm.Cond → Bool} (h1 : L.all (fun c => isCode c || P c) = true) (h2 : ∀ c ∈ L.filter isCode, P c = true) : L.all P = true := by
  refine List.all_eq_true.mpr fun c hc => ?_
  have h := List.all_eq_true.mp h1 c hc
  rcases Bool.eq_false_or_eq_true (isCode c) with hi | hi
  · exact h2 c (List.mem_filter.mpr ⟨hc, hi⟩)
  · simpa [hi] using h
set_option maxRecDepth 65536 in
theorem w_c0 : (Jvm.Cond.code x code maxLocals ret).before args0 about1 = true := code_word (m := ⟨1, 2⟩) (meth := k1m2) (c := k1c2) (by decide +kernel) rfl rfl rfl (by decide +kernel)
set_option maxRecDepth 65536 in
theorem w_c1 : (Jvm.Cond.code ({ cls := "com/example/vocab_scan/vocabscan/Utf8", name := "continues", desc := "(III)Z" } : Jvm.MethodName) prog_79_method_3_code (5 : Nat) (Option.some Jvm.ClassFile.FieldType.boolean)).before args0 about1 = true := code_word (m := ⟨2, 1⟩) (meth := k2m1) (c := k2c1) (by decide +kernel) rfl rfl rfl (by decide +kernel)
set_option maxRecDepth 65536 in
theorem w_c2 : (Jvm.Cond.code ({ cls := "com/example/vocab_scan/vocabscan/Utf8ContinuesPinLaw", name := "expected", desc := "(III)Z" } : Jvm.MethodName) method_2_code (7 : Nat) (Option.some Jvm.ClassFile.FieldType.boolean)).before args0 about1 = true := code_word (m := ⟨1, 1⟩) (meth := k1m1) (c := k1c1) (by decide +kernel) rfl rfl rfl (by decide +kernel)
def codes1 : List Jvm.Cond := [Jvm.Cond.code x code maxLocals ret, Jvm.Cond.code ({ cls := "com/example/vocab_scan/vocabscan/Utf8", name := "continues", desc := "(III)Z" } : Jvm.MethodName) prog_79_method_3_code (5 : Nat) (Option.some Jvm.ClassFile.FieldType.boolean), Jvm.Cond.code ({ cls := "com/example/vocab_scan/vocabscan/Utf8ContinuesPinLaw", name := "expected", desc := "(III)Z" } : Jvm.MethodName) method_2_code (7 : Nat) (Option.some Jvm.ClassFile.FieldType.boolean)]
set_option maxRecDepth 65536 in
theorem codes_eq : words1.filter isCode = codes1 := rfl
theorem w_codes : ∀ c ∈ words1.filter isCode, c.before args0 about1 = true := by
  rw [codes_eq]
  intro c hc
  simp only [codes1, List.mem_cons, List.not_mem_nil, or_false] at hc
  rcases hc with rfl | rfl | rfl
  · exact w_c0
  · exact w_c1
  · exact w_c2
set_option maxRecDepth 65536 in
theorem w_t1 : words1.all (fun c => isCode c || c.before args0 about1) = true := by decide +kernel
theorem w_tables : (allAtoms (Jvm.Cond.code x code maxLocals ret :: tables_1)).before args0 about1 = true := by
  rw [allAtoms_all]
  show words1.all (fun c => c.before args0 about1) = true
  refine all_split ?_ w_codes
  rw [w_t1]
set_option maxRecDepth 65536 in
theorem w_case : (Jvm.Cond.and given_1 narrow_1).before args0 about1 = true := by decide +kernel
theorem w_applies : (headSpec (Jvm.Cond.code x code maxLocals ret :: tables_1) room_1).applies x e0.platform about1 = true :=
  (Spec.applies_iff w_frames).mpr ⟨w_running, w_runnable, w_alone, w_named, w_hears, w_ripe, w_room, w_tables⟩
theorem atStart : AtStart classFile x code maxLocals ret World_1 tables_1 room_1 Calls_1 rest_1 Pre_1 launch0 p0 e0 about1 theMethod args0 below0 :=
  ⟨lists_1, trivial, launch0.admits_env _ _ _, launch0.least_env, fairChoices_fair.cas, fairChoices_fair.clock, w_frames, w_args, w_heap, w_applies, trivial, trivial, w_case⟩
end start1
theorem witness_1 : WitnessClaimed_1 := ⟨start1.p0, start1.e0, start1.about1, start1.theMethod, start1.args0, start1.below0, start1.atStart⟩
end Jvm.Pilot.@@N@@
