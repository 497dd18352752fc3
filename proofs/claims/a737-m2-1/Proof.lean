import JvmDerived
import JvmDerived.Pilot.@@N@@Statement
import JvmDerived.Pilot.@@N@@Code
set_option linter.unusedVariables false
set_option linter.unusedSimpArgs false
@@BLOCK:NumsL.lean.txt@@
namespace Jvm.Pilot.@@N@@
open Jvm Jvm.ClassFile Sem Op Lib Jvm.Free Jvm.Stand Jvm.LawKit Jvm.RoadKit Bundle Jvm.Pilot.@@N@@.Jvm.D
/-- a long's slot, written short -/
abbrev jv (x : Int64) : Slot := .val (.long x)
section OwnKit
variable {p : Program} {l : Launch} {e : Env} {R : Room} {s : State} {m : MethodId} {args : Array Value} {below : List Frame} {meth : Method} {c : Code} {T T' : State} {locs : List Loc} {cells slots : Nat} {Q : Option Value → Heap → List Loc → Prop} {kc ks : Nat} {g : JFrame} {Z : State} {a0 : Array Value} {h : Heap}
/-- what is left to do, from the state T with the top frame g: the run comes to the invocation's end, returns, and the end is as Q says -/
def own_G (p : Program) (e : Env) (below : List Frame) (s : State) (Q : Option Value → Heap → List Loc → Prop) (kc ks : Nat) (T : State) (g : JFrame) : Prop :=
  ∃ t o, Steps p.tables e below (T.setTop g) t ∧ t.status = .running ∧ Ended t below o ∧ ∃ v L, o = .returned v ∧ Q v t.heap L ∧ FrameEnd s o t L kc ks
theorem own_go (g' : JFrame) (k : ∀ t, Steps p.tables e below (T'.setTop g') t → Steps p.tables e below (T.setTop g) t) (h : own_G p e below s Q kc ks T' g') : own_G p e below s Q kc ks T g := by
  obtain ⟨t, o, h1, h2⟩ := h
  exact ⟨t, o, k t h1, h2⟩
theorem own_out (X : Stand p l e R s m args below meth c T locs cells slots) (hlk : meth.locks = false) {v : Option Value} (hv : meth.sig.returnType = none → v = none)
    (st : ∀ fs, (∀ (f : JFrame) (acts : List Action), f.method = m → f.locked = none → f.entered = [] → (doReturn e (T.setTop f) acts v).1 = T.setFrames fs) → Steps p.tables e below (T.setTop g) (T.setFrames fs))
    (hQ : Q v T.heap locs) (h1 : cells ≤ kc) (h2 : slots ≤ ks) : own_G p e below s Q kc ks T g := by
  obtain ⟨fs, hr, hrun, hended, hW, hsame⟩ := X.leave (v := v) hv hlk
  exact ⟨_, _, st fs hr, hrun, hended, v, locs, rfl, hQ, ⟨_, rfl⟩, hW, hsame.mono h1 h2⟩
theorem own_retI (X : Stand p l e R s m args below meth c T locs cells slots) (hx : p.tables.exec = Jvm.exec) (hlk : meth.locks = false) (hret : meth.sig.returnType = some .int) {pc : Nat} {Ls : Array Slot} {z : Int32} {rest : List Value} (hd : decode c.code pc = .ok (.ireturn, 1))
    (hQ : Q (some (.int z)) T.heap locs) (h1 : cells ≤ kc) (h2 : slots ≤ ks) : own_G p e below s Q kc ks T (mkF m pc Ls (.int z :: rest)) := by
  refine own_out X hlk (v := some (.int z)) (fun h => by rw [hret] at h; cases h) (fun fs hl => ?_) hQ h1 h2
  have hm' : T.vm.method? m = some meth := X.method'
  have hn : narrow .int (.int z) = .int z := rfl
  show Steps p.tables e below (T.setTop { method := m, pc := pc, locals := Ls, stack := _ :: rest, locked := none }) _
  jvm_step X.here [X.here.top, hx, hd, hm', hret, hn]
  first | (intro acts; rw [hl _ acts rfl rfl rfl]) | rw [hl _ _ rfl rfl rfl]
  exact Steps.refl _
theorem own_retZ (X : Stand p l e R s m args below meth c T locs cells slots) (hx : p.tables.exec = Jvm.exec) (hlk : meth.locks = false) (hret : meth.sig.returnType = some .boolean) {pc : Nat} {Ls : Array Slot} {z : Int32} {rest : List Value} (hd : decode c.code pc = .ok (.ireturn, 1))
    (hQ : Q (some (.int (z &&& 1))) T.heap locs) (h1 : cells ≤ kc) (h2 : slots ≤ ks) : own_G p e below s Q kc ks T (mkF m pc Ls (.int z :: rest)) :=
  own_out X hlk (v := some (.int (z &&& 1))) (fun h => by rw [hret] at h; cases h) (fun fs hl => retN X hx (t := .boolean) hret (by simp) hd hl) hQ h1 h2
theorem own_retJ (X : Stand p l e R s m args below meth c T locs cells slots) (hx : p.tables.exec = Jvm.exec) (hlk : meth.locks = false) (hret : meth.sig.returnType = some .long) {pc : Nat} {Ls : Array Slot} {z : Int64} (hd : decode c.code pc = .ok (.lreturn, 1))
    (hQ : Q (some (.long z)) T.heap locs) (h1 : cells ≤ kc) (h2 : slots ≤ ks) : own_G p e below s Q kc ks T (mkF m pc Ls [.long z]) :=
  own_out X hlk (v := some (.long z)) (fun h => by rw [hret] at h; cases h) (fun fs hl => X.lreturnOut hx hret hd hl) hQ h1 h2
theorem own_retA (X : Stand p l e R s m args below meth c T locs cells slots) (hx : p.tables.exec = Jvm.exec) (hlk : meth.locks = false) {t : FieldType} (hret : meth.sig.returnType = some t) (ht : t.isReference = true) {pc : Nat} {Ls : Array Slot} {z : Value} (hz : z.isRef = true) (hd : decode c.code pc = .ok (.areturn, 1))
    (hQ : Q (some z) T.heap locs) (h1 : cells ≤ kc) (h2 : slots ≤ ks) : own_G p e below s Q kc ks T (mkF m pc Ls [z]) :=
  own_out X hlk (v := some z) (fun h => by rw [hret] at h; cases h) (fun fs hl => X.areturnOut hx hz hret ht hd hl) hQ h1 h2
theorem own_retV (X : Stand p l e R s m args below meth c T locs cells slots) (hx : p.tables.exec = Jvm.exec) (hlk : meth.locks = false) (hret : meth.sig.returnType = none) {pc : Nat} {Ls : Array Slot} (hd : decode c.code pc = .ok (.return_, 1))
    (hQ : Q none T.heap locs) (h1 : cells ≤ kc) (h2 : slots ≤ ks) : own_G p e below s Q kc ks T (mkF m pc Ls []) :=
  own_out X hlk (v := none) (fun _ => rfl) (fun fs hl => X.returnOut hx hret hd hl) hQ h1 h2
/-- a method's contract at one heap and one row of arguments -/
def own_C (l : Launch) (Z : State) (y : MethodName) (bytes : ByteArray) (mx : Nat) (ret : Option FieldType) (ws : List Jvm.Cond) (rm : Room) (as : Array Value) (h0 : Heap) (Q : Option Value → Heap → List Loc → Prop) : Prop :=
  MetFree l y (head1 (Jvm.Cond.code y bytes mx ret :: ws) rm) (fun a U => a = as ∧ Z.Warmed39 U.vm ∧ U.heap = h0) (fun _ _ _ _ _ => True) (fun _ U o U' => ∃ v L, o = .returned v ∧ Q v U'.heap L ∧ FrameEnd U o U' L rm.cells rm.slots)
theorem own_met {y : MethodName} {bytes : ByteArray} {mx : Nat} {ret : Option FieldType} {ws : List Jvm.Cond} {rm : Room} {as : Array Value} {h0 : Heap} (hp : plainFor y = true) (L0 : Array Slot) (hef : ∀ m, entryFrame m as mx = mkF m 0 L0 [])
    (body : ∀ (p : Program) (e : Env) (s : State) (m : MethodId) (below : List Frame) (meth : Method) (c : Code) (s₁ : State), p.tables.exec = Jvm.exec → c.code = bytes → c.maxLocals = mx → s.vm.findClass y.cls = some m.cls → meth.sig.returnType = ret → meth.locks = false → Z.Warmed39 s.vm → meth.name = y.name →
      Stand p l e rm s m as below meth c s₁ [] 0 0 → s₁.heap = h0 → own_G p e below s Q rm.cells rm.slots s₁ (mkF m 0 L0 [])) :
    own_C l Z y bytes mx ret ws rm as h0 Q := by
  refine MetFree.of_bodySF hp hisR ?_
  intro p e s m args below meth c s₁ Bd hml0 hP hK
  obtain ⟨rfl, hZ, hh⟩ := hP
  have hown : s.vm.findClass y.cls = some m.cls := findClass_of_methodNamed Bd.named
  have hnm := (name_of_methodNamed Bd.named Bd.method).1
  have X0 : Stand p l e rm s m args below meth c s₁ [] 0 0 := Stand.of_body Bd
  have e0 : s₁.heap = h0 := by rw [← hh, Bd.state]; rfl
  obtain ⟨t, o, h1, h2⟩ := body p e s m below meth c s₁ Bd.exec Bd.bytes hml0 hown Bd.returns Bd.notSynchronized hZ hnm X0 e0
  exact ⟨t, o, castTop (hef m) h1, h2⟩
/-- a static call by the callee's contract -/
theorem own_callS (X : Stand p l e R s m args below meth c T locs cells slots) (hx : p.tables.exec = Jvm.exec) (hZ : Z.Warmed39 s.vm) {own : String} {index : Nat} {y : MethodName} {bytes : ByteArray} {mx : Nat} {ret : Option FieldType} {rm : Room} {Qc : Option Value → Heap → List Loc → Prop}
    (hown : s.vm.findClass own = some m.cls) (w1 : (Jvm.Cond.methodLink own index y).before a0 Z = true) (w2 : (Jvm.Cond.static y).before a0 Z = true) (w3 : (Jvm.Cond.initialized y.cls).before a0 Z = true) (w4 : (Jvm.Cond.code y bytes mx ret).before a0 Z = true) (hy : y.cls ≠ "java/lang/invoke/MethodHandle" ∧ y.cls ≠ "java/lang/invoke/VarHandle")
    (eT : T.heap = h) (argsL rest : List Value) (hM : own_C l Z y bytes mx ret [] rm argsL.toArray h Qc) (W : Nat) (hf : rm.frames + 1 ≤ R.frames) (hlo : W + (mx + 11) + rm.locals ≤ R.locals) (hW : (rest.map fun v => v.category).sum ≤ W) (hc : cells + rm.cells ≤ R.cells) (hs : slots + rm.slots ≤ R.slots)
    {pc : Nat} {Ls : Array Slot} {S : List Value} (hsize : Ls.size = c.maxLocals) (hlen : ∀ sig, parseMethodDescriptor y.desc = some sig → argsL.length = sig.parameters.length) (hS : S = argsL.reverse ++ rest) (hd : decode c.code pc = .ok (.invokestatic index, 3))
    (k : ∀ (T' : State) (v : Option Value) (L : List Loc), Stand p l e R s m args below meth c T' (locs ++ L) (cells + rm.cells) (slots + rm.slots) → Qc v T'.heap L → own_G p e below s Q kc ks T' (mkF m (pc + 3) Ls (v.toList ++ rest))) :
    own_G p e below s Q kc ks T (mkF m pc Ls S) := by
  obtain ⟨v, _, ⟨T', L', k', n'⟩, -, X', ⟨L, hQ, q1, q2, q3⟩, st⟩ := Jvm.LawKit.callS X hx (y := y) hown (mvT hZ w1) (mvT hZ w2) (mvT hZ w3) (mvT hZ w4) hy (backOf (W := W) hM hZ w4 w3 hf hlo) (g := mkF m pc Ls S) rfl hsize (argsL := argsL) (rest := rest) hlen hS (by show 2 * 0 + _ ≤ _; omega) hd (fun _ _ => ⟨rfl, eT, hc, hs⟩)
  dsimp only [Pt.U, Pt.locs, Pt.cells, Pt.slots] at X' q1 q2 q3 st hQ
  subst q1 q2 q3
  exact own_go _ st (k T' v L X' hQ)
/-- what a pure method's end is: this value, the heap as it was, no place written -/
def own_P (r : Value) (h0 : Heap) (v : Option Value) (h : Heap) (L : List Loc) : Prop := v = some r ∧ h = h0 ∧ L = []
/-- a static call of a pure method -/
theorem own_callP (X : Stand p l e R s m args below meth c T locs cells slots) (hx : p.tables.exec = Jvm.exec) (hZ : Z.Warmed39 s.vm) {own : String} {index : Nat} {y : MethodName} {bytes : ByteArray} {mx : Nat} {ret : Option FieldType} {fr lo : Nat} {r : Value}
    (hown : s.vm.findClass own = some m.cls) (w1 : (Jvm.Cond.methodLink own index y).before a0 Z = true) (w2 : (Jvm.Cond.static y).before a0 Z = true) (w3 : (Jvm.Cond.initialized y.cls).before a0 Z = true) (w4 : (Jvm.Cond.code y bytes mx ret).before a0 Z = true) (hy : y.cls ≠ "java/lang/invoke/MethodHandle" ∧ y.cls ≠ "java/lang/invoke/VarHandle")
    (eT : T.heap = h) (argsL rest : List Value) (hM : own_C l Z y bytes mx ret [] { frames := fr, cells := 0, slots := 0, locals := lo } argsL.toArray h (own_P r h)) (W : Nat) (hf : fr + 1 ≤ R.frames) (hlo : W + (mx + 11) + lo ≤ R.locals) (hW : (rest.map fun v => v.category).sum ≤ W) (hc : cells ≤ R.cells) (hs : slots ≤ R.slots)
    {pc : Nat} {Ls : Array Slot} {S : List Value} (hsize : Ls.size = c.maxLocals) (hlen : ∀ sig, parseMethodDescriptor y.desc = some sig → argsL.length = sig.parameters.length) (hS : S = argsL.reverse ++ rest) (hd : decode c.code pc = .ok (.invokestatic index, 3))
    (k : ∀ (T' : State), Stand p l e R s m args below meth c T' locs cells slots → T'.heap = h → own_G p e below s Q kc ks T' (mkF m (pc + 3) Ls (r :: rest))) :
    own_G p e below s Q kc ks T (mkF m pc Ls S) := by
  refine own_callS X hx hZ hown w1 w2 w3 w4 hy eT argsL rest hM W hf hlo hW hc hs hsize hlen hS hd ?_
  rintro T' v L X' ⟨rfl, q2, rfl⟩
  rw [List.append_nil] at X'
  exact k T' X' q2
/-- a constructor's call -/
theorem own_callI (X : Stand p l e R s m args below meth c T locs cells slots) (hx : p.tables.exec = Jvm.exec) (hZ : Z.Warmed39 s.vm) {own : String} {index : Nat} {y : MethodName} {bytes : ByteArray} {mx : Nat} {rm : Room} {Qc : Option Value → Heap → List Loc → Prop} (hy1 : y.name = "<init>")
    (hown : s.vm.findClass own = some m.cls) (w1 : (Jvm.Cond.methodLink own index y).before a0 Z = true) (w2 : (Jvm.Cond.instanceMethod y).before a0 Z = true) (w3 : (Jvm.Cond.initialized y.cls).before a0 Z = true) (w4 : (Jvm.Cond.code y bytes mx none).before a0 Z = true) (hy : y.cls ≠ "java/lang/invoke/MethodHandle" ∧ y.cls ≠ "java/lang/invoke/VarHandle")
    (eT : T.heap = h) (a : Addr) (argsL rest : List Value) (hM : own_C l Z y bytes mx none [] rm (.ref a :: argsL).toArray h Qc) (W : Nat) (hf : rm.frames + 1 ≤ R.frames) (hlo : W + (mx + 11) + rm.locals ≤ R.locals) (hW : (rest.map fun v => v.category).sum ≤ W) (hc : cells + rm.cells ≤ R.cells) (hs : slots + rm.slots ≤ R.slots)
    {pc : Nat} {Ls : Array Slot} {S : List Value} (hsize : Ls.size = c.maxLocals) (hlen : ∀ sig, parseMethodDescriptor y.desc = some sig → argsL.length = sig.parameters.length) (hS : S = argsL.reverse ++ .ref a :: rest) (hd : decode c.code pc = .ok (.invokespecial index, 3))
    (k : ∀ (T' : State) (v : Option Value) (L : List Loc), Stand p l e R s m args below meth c T' (locs ++ L) (cells + rm.cells) (slots + rm.slots) → Qc v T'.heap L → own_G p e below s Q kc ks T' (mkF m (pc + 3) Ls (v.toList ++ rest))) :
    own_G p e below s Q kc ks T (mkF m pc Ls S) := by
  obtain ⟨v, _, ⟨T', L', k', n'⟩, -, X', ⟨L, hQ, q1, q2, q3⟩, st⟩ := X.specialBack hx (y := y) hy1 hown (mvT hZ w1) (mvT hZ w2) (mvT hZ w4) hy (backOf (W := W) hM hZ w4 w3 hf hlo) (g := mkF m pc Ls S) rfl hsize (Steps.refl _) (a := a) (argsL := argsL) (rest := rest) hlen hS (by show 2 * 0 + _ ≤ _; omega) hd (fun _ _ => ⟨rfl, eT, hc, hs⟩)
  dsimp only [Pt.U, Pt.locs, Pt.cells, Pt.slots] at X' q1 q2 q3 st hQ
  subst q1 q2 q3
  exact own_go _ (fun t kt => st.trans kt) (k T' v L X' hQ)
/-- an instance method's call -/
theorem own_callV (X : Stand p l e R s m args below meth c T locs cells slots) (hx : p.tables.exec = Jvm.exec) (hZ : Z.Warmed39 s.vm) {own C : String} {index : Nat} {y : MethodName} {bytes : ByteArray} {mx : Nat} {ret : Option FieldType} {rm : Room} {Qc : Option Value → Heap → List Loc → Prop}
    (hown : s.vm.findClass own = some m.cls) (w1 : (Jvm.Cond.methodLink own index y).before a0 Z = true) (w5 : (Jvm.Cond.declares y).before a0 Z = true) (w6 : (Jvm.Cond.selects C y y).before a0 Z = true) (w2 : (Jvm.Cond.instanceMethod y).before a0 Z = true) (w3 : (Jvm.Cond.initialized y.cls).before a0 Z = true) (w4 : (Jvm.Cond.code y bytes mx ret).before a0 Z = true) (hy : y.cls ≠ "java/lang/invoke/MethodHandle" ∧ y.cls ≠ "java/lang/invoke/VarHandle")
    (eT : T.heap = h) {a : Addr} (E : Exa Z h a C) (argsL rest : List Value) (hM : own_C l Z y bytes mx ret [] rm (.ref a :: argsL).toArray h Qc) (W : Nat) (hf : rm.frames + 1 ≤ R.frames) (hlo : W + (mx + 11) + rm.locals ≤ R.locals) (hW : (rest.map fun v => v.category).sum ≤ W) (hc : cells + rm.cells ≤ R.cells) (hs : slots + rm.slots ≤ R.slots)
    {pc : Nat} {Ls : Array Slot} {S : List Value} (hsize : Ls.size = c.maxLocals) (hlen : ∀ sig, parseMethodDescriptor y.desc = some sig → argsL.length = sig.parameters.length) (hS : S = argsL.reverse ++ .ref a :: rest) (hd : decode c.code pc = .ok (.invokevirtual index, 3))
    (k : ∀ (T' : State) (v : Option Value) (L : List Loc), Stand p l e R s m args below meth c T' (locs ++ L) (cells + rm.cells) (slots + rm.slots) → Qc v T'.heap L → own_G p e below s Q kc ks T' (mkF m (pc + 3) Ls (v.toList ++ rest))) :
    own_G p e below s Q kc ks T (mkF m pc Ls S) := by
  obtain ⟨cq, kq, qa, qb, qc⟩ := isOf hZ eT E
  obtain ⟨v, _, ⟨T', L', k', n'⟩, -, X', ⟨L, hQ, q1, q2, q3⟩, st⟩ := X.virtualBack hx (y := y) (z := y) hown (mvT hZ w1) (mvT hZ w5) (notFace_of_selects (args := #[]) (mvT hZ w6)) (mvT hZ w6) (mvT hZ w2) hy (backOf (W := W) hM hZ w4 w3 hf hlo) qa qc (g := mkF m pc Ls S) rfl hsize (Steps.refl _) (argsL := argsL) (rest := rest) hlen hS (by show 2 * 0 + _ ≤ _; omega) hd (fun _ _ => ⟨rfl, eT, hc, hs⟩)
  dsimp only [Pt.U, Pt.locs, Pt.cells, Pt.slots] at X' q1 q2 q3 st hQ
  subst q1 q2 q3
  exact own_go _ (fun t kt => st.trans kt) (k T' v L X' hQ)
end OwnKit
theorem own_pd0 : parseMethodDescriptor "(C)Z" = some ⟨[.char], some .boolean⟩ := by decide +kernel
def own_hex (x : Int32) : Int32 := (if x < (48 : Int32) then (if x < (97 : Int32) then (if x < (65 : Int32) then (0 : Int32) else (if (70 : Int32) < x then (0 : Int32) else (1 : Int32))) else (if (102 : Int32) < x then (if x < (65 : Int32) then (0 : Int32) else (if (70 : Int32) < x then (0 : Int32) else (1 : Int32))) else (1 : Int32))) else (if (57 : Int32) < x then (if x < (97 : Int32) then (if x < (65 : Int32) then (0 : Int32) else (if (70 : Int32) < x then (0 : Int32) else (1 : Int32))) else (if (102 : Int32) < x then (if x < (65 : Int32) then (0 : Int32) else (if (70 : Int32) < x then (0 : Int32) else (1 : Int32))) else (1 : Int32))) else (1 : Int32)))
theorem own_d1_0 : decode prog_98_method_2_code 0 = .ok (.iload_n 0, 1) := by decide +kernel
theorem own_d1_1 : decode prog_98_method_2_code 1 = .ok (.bipush 48, 2) := by decide +kernel
theorem own_d1_3 : decode prog_98_method_2_code 3 = .ok (.if_icmp .lt 9, 3) := by decide +kernel
theorem own_d1_6 : decode prog_98_method_2_code 6 = .ok (.iload_n 0, 1) := by decide +kernel
theorem own_d1_7 : decode prog_98_method_2_code 7 = .ok (.bipush 57, 2) := by decide +kernel
theorem own_d1_9 : decode prog_98_method_2_code 9 = .ok (.if_icmp .le 27, 3) := by decide +kernel
theorem own_d1_12 : decode prog_98_method_2_code 12 = .ok (.iload_n 0, 1) := by decide +kernel
theorem own_d1_13 : decode prog_98_method_2_code 13 = .ok (.bipush 97, 2) := by decide +kernel
theorem own_d1_15 : decode prog_98_method_2_code 15 = .ok (.if_icmp .lt 9, 3) := by decide +kernel
theorem own_d1_18 : decode prog_98_method_2_code 18 = .ok (.iload_n 0, 1) := by decide +kernel
theorem own_d1_19 : decode prog_98_method_2_code 19 = .ok (.bipush 102, 2) := by decide +kernel
theorem own_d1_21 : decode prog_98_method_2_code 21 = .ok (.if_icmp .le 15, 3) := by decide +kernel
theorem own_d1_24 : decode prog_98_method_2_code 24 = .ok (.iload_n 0, 1) := by decide +kernel
theorem own_d1_25 : decode prog_98_method_2_code 25 = .ok (.bipush 65, 2) := by decide +kernel
theorem own_d1_27 : decode prog_98_method_2_code 27 = .ok (.if_icmp .lt 13, 3) := by decide +kernel
theorem own_d1_30 : decode prog_98_method_2_code 30 = .ok (.iload_n 0, 1) := by decide +kernel
theorem own_d1_31 : decode prog_98_method_2_code 31 = .ok (.bipush 70, 2) := by decide +kernel
theorem own_d1_33 : decode prog_98_method_2_code 33 = .ok (.if_icmp .gt 7, 3) := by decide +kernel
theorem own_d1_36 : decode prog_98_method_2_code 36 = .ok (.iconst 1, 1) := by decide +kernel
theorem own_d1_37 : decode prog_98_method_2_code 37 = .ok (.goto 4, 3) := by decide +kernel
theorem own_d1_40 : decode prog_98_method_2_code 40 = .ok (.iconst 0, 1) := by decide +kernel
theorem own_d1_41 : decode prog_98_method_2_code 41 = .ok (.ireturn, 1) := by decide +kernel
theorem own_pn_own_rm1 : plainFor (⟨"com/example/alcuin/alcuin/util/Ascii", "isHexDigit", "(C)Z"⟩ : MethodName) = true := plainFor_of_name (show plainName "com/example/alcuin/alcuin/util/Ascii" = true by first | (simp [plainName, overriddenIn]; done) | decide +kernel)
set_option maxRecDepth 65536 in
set_option maxHeartbeats 40000000 in
theorem own_rm1 (l : Launch) (Z : State) (a0 : Array Value) (hw : ∀ d ∈ tables_1, d.before a0 Z = true) (ws : List Jvm.Cond) (h0 : Heap) (x : Int32)  :
    own_C l Z (⟨"com/example/alcuin/alcuin/util/Ascii", "isHexDigit", "(C)Z"⟩ : MethodName) prog_98_method_2_code 1 (some .boolean) ws ({ frames := 0, cells := 0, slots := 0, locals := 0 } : Room) #[(.int x)] h0 (own_P (.int (own_hex x)) h0) := by
  refine own_met own_pn_own_rm1 #[iv x] (fun m => by first | (simp [entryFrame, mkF, argsToLocals, Value.category]; done) | rfl) ?_
  intro p e s m below meth c s₁ hx hby hml hown hret hlk hZ hnm X0 e0
  refine own_go (mkF m 1 #[iv x] [(.int x)]) (fun t k => XS.iloadN X0.here hx rfl (hb hby own_d1_0) rfl  k) ?_
  refine own_go (mkF m 3 #[iv x] [(.int (48 : Int32)), (.int x)]) (fun t k => XS.bipush X0.here hx rfl (hb hby own_d1_1) k) ?_
  by_cases hc3 : x < (48 : Int32)
  · skip
    refine own_go (mkF m 12 #[iv x] []) (fun t k => XS.icmpYes X0.here hx rfl (pc0 := 3) (pc' := 12) rfl (hb hby own_d1_3) rfl (tlt hc3).1 (by decide) (by decide) k) ?_
    refine own_go (mkF m 13 #[iv x] [(.int x)]) (fun t k => XS.iloadN X0.here hx rfl (hb hby own_d1_12) rfl  k) ?_
    refine own_go (mkF m 15 #[iv x] [(.int (97 : Int32)), (.int x)]) (fun t k => XS.bipush X0.here hx rfl (hb hby own_d1_13) k) ?_
    by_cases hc15 : x < (97 : Int32)
    · skip
      refine own_go (mkF m 24 #[iv x] []) (fun t k => XS.icmpYes X0.here hx rfl (pc0 := 15) (pc' := 24) rfl (hb hby own_d1_15) rfl (tlt hc15).1 (by decide) (by decide) k) ?_
      refine own_go (mkF m 25 #[iv x] [(.int x)]) (fun t k => XS.iloadN X0.here hx rfl (hb hby own_d1_24) rfl  k) ?_
      refine own_go (mkF m 27 #[iv x] [(.int (65 : Int32)), (.int x)]) (fun t k => XS.bipush X0.here hx rfl (hb hby own_d1_25) k) ?_
      by_cases hc27 : x < (65 : Int32)
      · skip
        refine own_go (mkF m 40 #[iv x] []) (fun t k => XS.icmpYes X0.here hx rfl (pc0 := 27) (pc' := 40) rfl (hb hby own_d1_27) rfl (tlt hc27).1 (by decide) (by decide) k) ?_
        refine own_go (mkF m 41 #[iv x] [(.int (0 : Int32))]) (fun t k => XS.iconst X0.here hx rfl (hb hby own_d1_40) k) ?_
        refine own_retZ X0 hx hlk hret (hb hby own_d1_41) ?_ (by decide) (by decide)
        exact ⟨congrArg (fun z => some (Value.int z)) ((show (own_hex x) = (0 : Int32) from ((if_pos hc3).trans ((if_pos hc15).trans ((if_pos hc27).trans rfl)))).trans (by decide : (0 : Int32) = ((0 : Int32) &&& 1))).symm, e0, rfl⟩
      · skip
        refine own_go (mkF m 30 #[iv x] []) (fun t k => XS.icmpNo X0.here hx rfl (hb hby own_d1_27) rfl (flt hc27).1 k) ?_
        refine own_go (mkF m 31 #[iv x] [(.int x)]) (fun t k => XS.iloadN X0.here hx rfl (hb hby own_d1_30) rfl  k) ?_
        refine own_go (mkF m 33 #[iv x] [(.int (70 : Int32)), (.int x)]) (fun t k => XS.bipush X0.here hx rfl (hb hby own_d1_31) k) ?_
        by_cases hc33 : (70 : Int32) < x
        · skip
          refine own_go (mkF m 40 #[iv x] []) (fun t k => XS.icmpYes X0.here hx rfl (pc0 := 33) (pc' := 40) rfl (hb hby own_d1_33) rfl (tlt hc33).2.2.1 (by decide) (by decide) k) ?_
          refine own_go (mkF m 41 #[iv x] [(.int (0 : Int32))]) (fun t k => XS.iconst X0.here hx rfl (hb hby own_d1_40) k) ?_
          refine own_retZ X0 hx hlk hret (hb hby own_d1_41) ?_ (by decide) (by decide)
          exact ⟨congrArg (fun z => some (Value.int z)) ((show (own_hex x) = (0 : Int32) from ((if_pos hc3).trans ((if_pos hc15).trans ((if_neg hc27).trans ((if_pos hc33).trans rfl))))).trans (by decide : (0 : Int32) = ((0 : Int32) &&& 1))).symm, e0, rfl⟩
        · skip
          refine own_go (mkF m 36 #[iv x] []) (fun t k => XS.icmpNo X0.here hx rfl (hb hby own_d1_33) rfl (flt hc33).2.2.1 k) ?_
          refine own_go (mkF m 37 #[iv x] [(.int (1 : Int32))]) (fun t k => XS.iconst X0.here hx rfl (hb hby own_d1_36) k) ?_
          refine own_go (mkF m 41 #[iv x] [(.int (1 : Int32))]) (fun t k => XS.goto X0.here hx rfl (pc0 := 37) (pc' := 41) rfl (hb hby own_d1_37) (by decide) (by decide) k) ?_
          refine own_retZ X0 hx hlk hret (hb hby own_d1_41) ?_ (by decide) (by decide)
          exact ⟨congrArg (fun z => some (Value.int z)) ((show (own_hex x) = (1 : Int32) from ((if_pos hc3).trans ((if_pos hc15).trans ((if_neg hc27).trans ((if_neg hc33).trans rfl))))).trans (by decide : (1 : Int32) = ((1 : Int32) &&& 1))).symm, e0, rfl⟩
    · skip
      refine own_go (mkF m 18 #[iv x] []) (fun t k => XS.icmpNo X0.here hx rfl (hb hby own_d1_15) rfl (flt hc15).1 k) ?_
      refine own_go (mkF m 19 #[iv x] [(.int x)]) (fun t k => XS.iloadN X0.here hx rfl (hb hby own_d1_18) rfl  k) ?_
      refine own_go (mkF m 21 #[iv x] [(.int (102 : Int32)), (.int x)]) (fun t k => XS.bipush X0.here hx rfl (hb hby own_d1_19) k) ?_
      by_cases hc21 : (102 : Int32) < x
      · skip
        refine own_go (mkF m 24 #[iv x] []) (fun t k => XS.icmpNo X0.here hx rfl (hb hby own_d1_21) rfl (tlt hc21).2.2.2 k) ?_
        refine own_go (mkF m 25 #[iv x] [(.int x)]) (fun t k => XS.iloadN X0.here hx rfl (hb hby own_d1_24) rfl  k) ?_
        refine own_go (mkF m 27 #[iv x] [(.int (65 : Int32)), (.int x)]) (fun t k => XS.bipush X0.here hx rfl (hb hby own_d1_25) k) ?_
        by_cases hc27 : x < (65 : Int32)
        · skip
          refine own_go (mkF m 40 #[iv x] []) (fun t k => XS.icmpYes X0.here hx rfl (pc0 := 27) (pc' := 40) rfl (hb hby own_d1_27) rfl (tlt hc27).1 (by decide) (by decide) k) ?_
          refine own_go (mkF m 41 #[iv x] [(.int (0 : Int32))]) (fun t k => XS.iconst X0.here hx rfl (hb hby own_d1_40) k) ?_
          refine own_retZ X0 hx hlk hret (hb hby own_d1_41) ?_ (by decide) (by decide)
          exact ⟨congrArg (fun z => some (Value.int z)) ((show (own_hex x) = (0 : Int32) from ((if_pos hc3).trans ((if_neg hc15).trans ((if_pos hc21).trans ((if_pos hc27).trans rfl))))).trans (by decide : (0 : Int32) = ((0 : Int32) &&& 1))).symm, e0, rfl⟩
        · skip
          refine own_go (mkF m 30 #[iv x] []) (fun t k => XS.icmpNo X0.here hx rfl (hb hby own_d1_27) rfl (flt hc27).1 k) ?_
          refine own_go (mkF m 31 #[iv x] [(.int x)]) (fun t k => XS.iloadN X0.here hx rfl (hb hby own_d1_30) rfl  k) ?_
          refine own_go (mkF m 33 #[iv x] [(.int (70 : Int32)), (.int x)]) (fun t k => XS.bipush X0.here hx rfl (hb hby own_d1_31) k) ?_
          by_cases hc33 : (70 : Int32) < x
          · skip
            refine own_go (mkF m 40 #[iv x] []) (fun t k => XS.icmpYes X0.here hx rfl (pc0 := 33) (pc' := 40) rfl (hb hby own_d1_33) rfl (tlt hc33).2.2.1 (by decide) (by decide) k) ?_
            refine own_go (mkF m 41 #[iv x] [(.int (0 : Int32))]) (fun t k => XS.iconst X0.here hx rfl (hb hby own_d1_40) k) ?_
            refine own_retZ X0 hx hlk hret (hb hby own_d1_41) ?_ (by decide) (by decide)
            exact ⟨congrArg (fun z => some (Value.int z)) ((show (own_hex x) = (0 : Int32) from ((if_pos hc3).trans ((if_neg hc15).trans ((if_pos hc21).trans ((if_neg hc27).trans ((if_pos hc33).trans rfl)))))).trans (by decide : (0 : Int32) = ((0 : Int32) &&& 1))).symm, e0, rfl⟩
          · skip
            refine own_go (mkF m 36 #[iv x] []) (fun t k => XS.icmpNo X0.here hx rfl (hb hby own_d1_33) rfl (flt hc33).2.2.1 k) ?_
            refine own_go (mkF m 37 #[iv x] [(.int (1 : Int32))]) (fun t k => XS.iconst X0.here hx rfl (hb hby own_d1_36) k) ?_
            refine own_go (mkF m 41 #[iv x] [(.int (1 : Int32))]) (fun t k => XS.goto X0.here hx rfl (pc0 := 37) (pc' := 41) rfl (hb hby own_d1_37) (by decide) (by decide) k) ?_
            refine own_retZ X0 hx hlk hret (hb hby own_d1_41) ?_ (by decide) (by decide)
            exact ⟨congrArg (fun z => some (Value.int z)) ((show (own_hex x) = (1 : Int32) from ((if_pos hc3).trans ((if_neg hc15).trans ((if_pos hc21).trans ((if_neg hc27).trans ((if_neg hc33).trans rfl)))))).trans (by decide : (1 : Int32) = ((1 : Int32) &&& 1))).symm, e0, rfl⟩
      · skip
        refine own_go (mkF m 36 #[iv x] []) (fun t k => XS.icmpYes X0.here hx rfl (pc0 := 21) (pc' := 36) rfl (hb hby own_d1_21) rfl (flt hc21).2.2.2 (by decide) (by decide) k) ?_
        refine own_go (mkF m 37 #[iv x] [(.int (1 : Int32))]) (fun t k => XS.iconst X0.here hx rfl (hb hby own_d1_36) k) ?_
        refine own_go (mkF m 41 #[iv x] [(.int (1 : Int32))]) (fun t k => XS.goto X0.here hx rfl (pc0 := 37) (pc' := 41) rfl (hb hby own_d1_37) (by decide) (by decide) k) ?_
        refine own_retZ X0 hx hlk hret (hb hby own_d1_41) ?_ (by decide) (by decide)
        exact ⟨congrArg (fun z => some (Value.int z)) ((show (own_hex x) = (1 : Int32) from ((if_pos hc3).trans ((if_neg hc15).trans ((if_neg hc21).trans rfl)))).trans (by decide : (1 : Int32) = ((1 : Int32) &&& 1))).symm, e0, rfl⟩
  · skip
    refine own_go (mkF m 6 #[iv x] []) (fun t k => XS.icmpNo X0.here hx rfl (hb hby own_d1_3) rfl (flt hc3).1 k) ?_
    refine own_go (mkF m 7 #[iv x] [(.int x)]) (fun t k => XS.iloadN X0.here hx rfl (hb hby own_d1_6) rfl  k) ?_
    refine own_go (mkF m 9 #[iv x] [(.int (57 : Int32)), (.int x)]) (fun t k => XS.bipush X0.here hx rfl (hb hby own_d1_7) k) ?_
    by_cases hc9 : (57 : Int32) < x
    · skip
      refine own_go (mkF m 12 #[iv x] []) (fun t k => XS.icmpNo X0.here hx rfl (hb hby own_d1_9) rfl (tlt hc9).2.2.2 k) ?_
      refine own_go (mkF m 13 #[iv x] [(.int x)]) (fun t k => XS.iloadN X0.here hx rfl (hb hby own_d1_12) rfl  k) ?_
      refine own_go (mkF m 15 #[iv x] [(.int (97 : Int32)), (.int x)]) (fun t k => XS.bipush X0.here hx rfl (hb hby own_d1_13) k) ?_
      by_cases hc15 : x < (97 : Int32)
      · skip
        refine own_go (mkF m 24 #[iv x] []) (fun t k => XS.icmpYes X0.here hx rfl (pc0 := 15) (pc' := 24) rfl (hb hby own_d1_15) rfl (tlt hc15).1 (by decide) (by decide) k) ?_
        refine own_go (mkF m 25 #[iv x] [(.int x)]) (fun t k => XS.iloadN X0.here hx rfl (hb hby own_d1_24) rfl  k) ?_
        refine own_go (mkF m 27 #[iv x] [(.int (65 : Int32)), (.int x)]) (fun t k => XS.bipush X0.here hx rfl (hb hby own_d1_25) k) ?_
        by_cases hc27 : x < (65 : Int32)
        · skip
          refine own_go (mkF m 40 #[iv x] []) (fun t k => XS.icmpYes X0.here hx rfl (pc0 := 27) (pc' := 40) rfl (hb hby own_d1_27) rfl (tlt hc27).1 (by decide) (by decide) k) ?_
          refine own_go (mkF m 41 #[iv x] [(.int (0 : Int32))]) (fun t k => XS.iconst X0.here hx rfl (hb hby own_d1_40) k) ?_
          refine own_retZ X0 hx hlk hret (hb hby own_d1_41) ?_ (by decide) (by decide)
          exact ⟨congrArg (fun z => some (Value.int z)) ((show (own_hex x) = (0 : Int32) from ((if_neg hc3).trans ((if_pos hc9).trans ((if_pos hc15).trans ((if_pos hc27).trans rfl))))).trans (by decide : (0 : Int32) = ((0 : Int32) &&& 1))).symm, e0, rfl⟩
        · skip
          refine own_go (mkF m 30 #[iv x] []) (fun t k => XS.icmpNo X0.here hx rfl (hb hby own_d1_27) rfl (flt hc27).1 k) ?_
          refine own_go (mkF m 31 #[iv x] [(.int x)]) (fun t k => XS.iloadN X0.here hx rfl (hb hby own_d1_30) rfl  k) ?_
          refine own_go (mkF m 33 #[iv x] [(.int (70 : Int32)), (.int x)]) (fun t k => XS.bipush X0.here hx rfl (hb hby own_d1_31) k) ?_
          by_cases hc33 : (70 : Int32) < x
          · skip
            refine own_go (mkF m 40 #[iv x] []) (fun t k => XS.icmpYes X0.here hx rfl (pc0 := 33) (pc' := 40) rfl (hb hby own_d1_33) rfl (tlt hc33).2.2.1 (by decide) (by decide) k) ?_
            refine own_go (mkF m 41 #[iv x] [(.int (0 : Int32))]) (fun t k => XS.iconst X0.here hx rfl (hb hby own_d1_40) k) ?_
            refine own_retZ X0 hx hlk hret (hb hby own_d1_41) ?_ (by decide) (by decide)
            exact ⟨congrArg (fun z => some (Value.int z)) ((show (own_hex x) = (0 : Int32) from ((if_neg hc3).trans ((if_pos hc9).trans ((if_pos hc15).trans ((if_neg hc27).trans ((if_pos hc33).trans rfl)))))).trans (by decide : (0 : Int32) = ((0 : Int32) &&& 1))).symm, e0, rfl⟩
          · skip
            refine own_go (mkF m 36 #[iv x] []) (fun t k => XS.icmpNo X0.here hx rfl (hb hby own_d1_33) rfl (flt hc33).2.2.1 k) ?_
            refine own_go (mkF m 37 #[iv x] [(.int (1 : Int32))]) (fun t k => XS.iconst X0.here hx rfl (hb hby own_d1_36) k) ?_
            refine own_go (mkF m 41 #[iv x] [(.int (1 : Int32))]) (fun t k => XS.goto X0.here hx rfl (pc0 := 37) (pc' := 41) rfl (hb hby own_d1_37) (by decide) (by decide) k) ?_
            refine own_retZ X0 hx hlk hret (hb hby own_d1_41) ?_ (by decide) (by decide)
            exact ⟨congrArg (fun z => some (Value.int z)) ((show (own_hex x) = (1 : Int32) from ((if_neg hc3).trans ((if_pos hc9).trans ((if_pos hc15).trans ((if_neg hc27).trans ((if_neg hc33).trans rfl)))))).trans (by decide : (1 : Int32) = ((1 : Int32) &&& 1))).symm, e0, rfl⟩
      · skip
        refine own_go (mkF m 18 #[iv x] []) (fun t k => XS.icmpNo X0.here hx rfl (hb hby own_d1_15) rfl (flt hc15).1 k) ?_
        refine own_go (mkF m 19 #[iv x] [(.int x)]) (fun t k => XS.iloadN X0.here hx rfl (hb hby own_d1_18) rfl  k) ?_
        refine own_go (mkF m 21 #[iv x] [(.int (102 : Int32)), (.int x)]) (fun t k => XS.bipush X0.here hx rfl (hb hby own_d1_19) k) ?_
        by_cases hc21 : (102 : Int32) < x
        · skip
          refine own_go (mkF m 24 #[iv x] []) (fun t k => XS.icmpNo X0.here hx rfl (hb hby own_d1_21) rfl (tlt hc21).2.2.2 k) ?_
          refine own_go (mkF m 25 #[iv x] [(.int x)]) (fun t k => XS.iloadN X0.here hx rfl (hb hby own_d1_24) rfl  k) ?_
          refine own_go (mkF m 27 #[iv x] [(.int (65 : Int32)), (.int x)]) (fun t k => XS.bipush X0.here hx rfl (hb hby own_d1_25) k) ?_
          by_cases hc27 : x < (65 : Int32)
          · skip
            refine own_go (mkF m 40 #[iv x] []) (fun t k => XS.icmpYes X0.here hx rfl (pc0 := 27) (pc' := 40) rfl (hb hby own_d1_27) rfl (tlt hc27).1 (by decide) (by decide) k) ?_
            refine own_go (mkF m 41 #[iv x] [(.int (0 : Int32))]) (fun t k => XS.iconst X0.here hx rfl (hb hby own_d1_40) k) ?_
            refine own_retZ X0 hx hlk hret (hb hby own_d1_41) ?_ (by decide) (by decide)
            exact ⟨congrArg (fun z => some (Value.int z)) ((show (own_hex x) = (0 : Int32) from ((if_neg hc3).trans ((if_pos hc9).trans ((if_neg hc15).trans ((if_pos hc21).trans ((if_pos hc27).trans rfl)))))).trans (by decide : (0 : Int32) = ((0 : Int32) &&& 1))).symm, e0, rfl⟩
          · skip
            refine own_go (mkF m 30 #[iv x] []) (fun t k => XS.icmpNo X0.here hx rfl (hb hby own_d1_27) rfl (flt hc27).1 k) ?_
            refine own_go (mkF m 31 #[iv x] [(.int x)]) (fun t k => XS.iloadN X0.here hx rfl (hb hby own_d1_30) rfl  k) ?_
            refine own_go (mkF m 33 #[iv x] [(.int (70 : Int32)), (.int x)]) (fun t k => XS.bipush X0.here hx rfl (hb hby own_d1_31) k) ?_
            by_cases hc33 : (70 : Int32) < x
            · skip
              refine own_go (mkF m 40 #[iv x] []) (fun t k => XS.icmpYes X0.here hx rfl (pc0 := 33) (pc' := 40) rfl (hb hby own_d1_33) rfl (tlt hc33).2.2.1 (by decide) (by decide) k) ?_
              refine own_go (mkF m 41 #[iv x] [(.int (0 : Int32))]) (fun t k => XS.iconst X0.here hx rfl (hb hby own_d1_40) k) ?_
              refine own_retZ X0 hx hlk hret (hb hby own_d1_41) ?_ (by decide) (by decide)
              exact ⟨congrArg (fun z => some (Value.int z)) ((show (own_hex x) = (0 : Int32) from ((if_neg hc3).trans ((if_pos hc9).trans ((if_neg hc15).trans ((if_pos hc21).trans ((if_neg hc27).trans ((if_pos hc33).trans rfl))))))).trans (by decide : (0 : Int32) = ((0 : Int32) &&& 1))).symm, e0, rfl⟩
            · skip
              refine own_go (mkF m 36 #[iv x] []) (fun t k => XS.icmpNo X0.here hx rfl (hb hby own_d1_33) rfl (flt hc33).2.2.1 k) ?_
              refine own_go (mkF m 37 #[iv x] [(.int (1 : Int32))]) (fun t k => XS.iconst X0.here hx rfl (hb hby own_d1_36) k) ?_
              refine own_go (mkF m 41 #[iv x] [(.int (1 : Int32))]) (fun t k => XS.goto X0.here hx rfl (pc0 := 37) (pc' := 41) rfl (hb hby own_d1_37) (by decide) (by decide) k) ?_
              refine own_retZ X0 hx hlk hret (hb hby own_d1_41) ?_ (by decide) (by decide)
              exact ⟨congrArg (fun z => some (Value.int z)) ((show (own_hex x) = (1 : Int32) from ((if_neg hc3).trans ((if_pos hc9).trans ((if_neg hc15).trans ((if_pos hc21).trans ((if_neg hc27).trans ((if_neg hc33).trans rfl))))))).trans (by decide : (1 : Int32) = ((1 : Int32) &&& 1))).symm, e0, rfl⟩
        · skip
          refine own_go (mkF m 36 #[iv x] []) (fun t k => XS.icmpYes X0.here hx rfl (pc0 := 21) (pc' := 36) rfl (hb hby own_d1_21) rfl (flt hc21).2.2.2 (by decide) (by decide) k) ?_
          refine own_go (mkF m 37 #[iv x] [(.int (1 : Int32))]) (fun t k => XS.iconst X0.here hx rfl (hb hby own_d1_36) k) ?_
          refine own_go (mkF m 41 #[iv x] [(.int (1 : Int32))]) (fun t k => XS.goto X0.here hx rfl (pc0 := 37) (pc' := 41) rfl (hb hby own_d1_37) (by decide) (by decide) k) ?_
          refine own_retZ X0 hx hlk hret (hb hby own_d1_41) ?_ (by decide) (by decide)
          exact ⟨congrArg (fun z => some (Value.int z)) ((show (own_hex x) = (1 : Int32) from ((if_neg hc3).trans ((if_pos hc9).trans ((if_neg hc15).trans ((if_neg hc21).trans rfl))))).trans (by decide : (1 : Int32) = ((1 : Int32) &&& 1))).symm, e0, rfl⟩
    · skip
      refine own_go (mkF m 36 #[iv x] []) (fun t k => XS.icmpYes X0.here hx rfl (pc0 := 9) (pc' := 36) rfl (hb hby own_d1_9) rfl (flt hc9).2.2.2 (by decide) (by decide) k) ?_
      refine own_go (mkF m 37 #[iv x] [(.int (1 : Int32))]) (fun t k => XS.iconst X0.here hx rfl (hb hby own_d1_36) k) ?_
      refine own_go (mkF m 41 #[iv x] [(.int (1 : Int32))]) (fun t k => XS.goto X0.here hx rfl (pc0 := 37) (pc' := 41) rfl (hb hby own_d1_37) (by decide) (by decide) k) ?_
      refine own_retZ X0 hx hlk hret (hb hby own_d1_41) ?_ (by decide) (by decide)
      exact ⟨congrArg (fun z => some (Value.int z)) ((show (own_hex x) = (1 : Int32) from ((if_neg hc3).trans ((if_neg hc9).trans rfl))).trans (by decide : (1 : Int32) = ((1 : Int32) &&& 1))).symm, e0, rfl⟩

def own_ref (x : Int32) : Int32 := (if (x - (48 : Int32)) < (0 : Int32) then (if ((x ||| (32 : Int32)) - (97 : Int32)) < (0 : Int32) then (0 : Int32) else (if ((x ||| (32 : Int32)) - (97 : Int32)) < (6 : Int32) then (1 : Int32) else (0 : Int32))) else (if (x - (48 : Int32)) < (10 : Int32) then (if ((x ||| (32 : Int32)) - (97 : Int32)) < (0 : Int32) then (1 : Int32) else (if ((x ||| (32 : Int32)) - (97 : Int32)) < (6 : Int32) then (1 : Int32) else (1 : Int32))) else (if ((x ||| (32 : Int32)) - (97 : Int32)) < (0 : Int32) then (0 : Int32) else (if ((x ||| (32 : Int32)) - (97 : Int32)) < (6 : Int32) then (1 : Int32) else (0 : Int32)))))
theorem own_d2_0 : decode method_2_code 0 = .ok (.iload_n 0, 1) := by decide +kernel
theorem own_d2_1 : decode method_2_code 1 = .ok (.bipush 48, 2) := by decide +kernel
theorem own_d2_3 : decode method_2_code 3 = .ok (.isub, 1) := by decide +kernel
theorem own_d2_4 : decode method_2_code 4 = .ok (.istore_n 1, 1) := by decide +kernel
theorem own_d2_5 : decode method_2_code 5 = .ok (.iload_n 1, 1) := by decide +kernel
theorem own_d2_6 : decode method_2_code 6 = .ok (.ifCond .lt 13, 3) := by decide +kernel
theorem own_d2_9 : decode method_2_code 9 = .ok (.iload_n 1, 1) := by decide +kernel
theorem own_d2_10 : decode method_2_code 10 = .ok (.bipush 10, 2) := by decide +kernel
theorem own_d2_12 : decode method_2_code 12 = .ok (.if_icmp .ge 7, 3) := by decide +kernel
theorem own_d2_15 : decode method_2_code 15 = .ok (.iconst 1, 1) := by decide +kernel
theorem own_d2_16 : decode method_2_code 16 = .ok (.goto 4, 3) := by decide +kernel
theorem own_d2_19 : decode method_2_code 19 = .ok (.iconst 0, 1) := by decide +kernel
theorem own_d2_20 : decode method_2_code 20 = .ok (.istore_n 2, 1) := by decide +kernel
theorem own_d2_21 : decode method_2_code 21 = .ok (.iload_n 0, 1) := by decide +kernel
theorem own_d2_22 : decode method_2_code 22 = .ok (.bipush 32, 2) := by decide +kernel
theorem own_d2_24 : decode method_2_code 24 = .ok (.ior, 1) := by decide +kernel
theorem own_d2_25 : decode method_2_code 25 = .ok (.bipush 97, 2) := by decide +kernel
theorem own_d2_27 : decode method_2_code 27 = .ok (.isub, 1) := by decide +kernel
theorem own_d2_28 : decode method_2_code 28 = .ok (.istore_n 3, 1) := by decide +kernel
theorem own_d2_29 : decode method_2_code 29 = .ok (.iload_n 3, 1) := by decide +kernel
theorem own_d2_30 : decode method_2_code 30 = .ok (.ifCond .lt 13, 3) := by decide +kernel
theorem own_d2_33 : decode method_2_code 33 = .ok (.iload_n 3, 1) := by decide +kernel
theorem own_d2_34 : decode method_2_code 34 = .ok (.bipush 6, 2) := by decide +kernel
theorem own_d2_36 : decode method_2_code 36 = .ok (.if_icmp .ge 7, 3) := by decide +kernel
theorem own_d2_39 : decode method_2_code 39 = .ok (.iconst 1, 1) := by decide +kernel
theorem own_d2_40 : decode method_2_code 40 = .ok (.goto 4, 3) := by decide +kernel
theorem own_d2_43 : decode method_2_code 43 = .ok (.iconst 0, 1) := by decide +kernel
theorem own_d2_44 : decode method_2_code 44 = .ok (.istore 4, 2) := by decide +kernel
theorem own_d2_46 : decode method_2_code 46 = .ok (.iload_n 2, 1) := by decide +kernel
theorem own_d2_47 : decode method_2_code 47 = .ok (.ifCond .ne 8, 3) := by decide +kernel
theorem own_d2_50 : decode method_2_code 50 = .ok (.iload 4, 2) := by decide +kernel
theorem own_d2_52 : decode method_2_code 52 = .ok (.ifCond .eq 7, 3) := by decide +kernel
theorem own_d2_55 : decode method_2_code 55 = .ok (.iconst 1, 1) := by decide +kernel
theorem own_d2_56 : decode method_2_code 56 = .ok (.goto 4, 3) := by decide +kernel
theorem own_d2_59 : decode method_2_code 59 = .ok (.iconst 0, 1) := by decide +kernel
theorem own_d2_60 : decode method_2_code 60 = .ok (.ireturn, 1) := by decide +kernel
theorem own_pn_own_rm2 : plainFor (⟨"com/example/alcuin/alcuin/util/AsciiIsHexDigitPinLaw", "reference", "(C)Z"⟩ : MethodName) = true := plainFor_of_name (show plainName "com/example/alcuin/alcuin/util/AsciiIsHexDigitPinLaw" = true by first | (simp [plainName, overriddenIn]; done) | decide +kernel)
set_option maxRecDepth 65536 in
set_option maxHeartbeats 40000000 in
theorem own_rm2 (l : Launch) (Z : State) (a0 : Array Value) (hw : ∀ d ∈ tables_1, d.before a0 Z = true) (ws : List Jvm.Cond) (h0 : Heap) (x : Int32)  :
    own_C l Z (⟨"com/example/alcuin/alcuin/util/AsciiIsHexDigitPinLaw", "reference", "(C)Z"⟩ : MethodName) method_2_code 5 (some .boolean) ws ({ frames := 0, cells := 0, slots := 0, locals := 0 } : Room) #[(.int x)] h0 (own_P (.int (own_ref x)) h0) := by
  refine own_met own_pn_own_rm2 #[iv x, .unset, .unset, .unset, .unset] (fun m => by first | (simp [entryFrame, mkF, argsToLocals, Value.category]; done) | rfl) ?_
  intro p e s m below meth c s₁ hx hby hml hown hret hlk hZ hnm X0 e0
  refine own_go (mkF m 1 #[iv x, .unset, .unset, .unset, .unset] [(.int x)]) (fun t k => XS.iloadN X0.here hx rfl (hb hby own_d2_0) rfl  k) ?_
  refine own_go (mkF m 3 #[iv x, .unset, .unset, .unset, .unset] [(.int (48 : Int32)), (.int x)]) (fun t k => XS.bipush X0.here hx rfl (hb hby own_d2_1) k) ?_
  refine own_go (mkF m 4 #[iv x, .unset, .unset, .unset, .unset] [(.int (x - (48 : Int32)))]) (fun t k => XS.isub X0.here hx rfl (hb hby own_d2_3) rfl k) ?_
  refine own_go (mkF m 5 #[iv x, iv (x - (48 : Int32)), .unset, .unset, .unset] []) (fun t k => XS.istoreN X0.here hx rfl (hb hby own_d2_4) rfl (l' := #[iv x, iv (x - (48 : Int32)), .unset, .unset, .unset]) rfl k) ?_
  refine own_go (mkF m 6 #[iv x, iv (x - (48 : Int32)), .unset, .unset, .unset] [(.int (x - (48 : Int32)))]) (fun t k => XS.iloadN X0.here hx rfl (hb hby own_d2_5) rfl  k) ?_
  by_cases hc6 : (x - (48 : Int32)) < (0 : Int32)
  · skip
    refine own_go (mkF m 19 #[iv x, iv (x - (48 : Int32)), .unset, .unset, .unset] []) (fun t k => XS.ifYes X0.here hx rfl (pc0 := 6) (pc' := 19) rfl (hb hby own_d2_6) rfl ((if0 _ _).trans (tlt hc6).1) (by decide) (by decide) k) ?_
    refine own_go (mkF m 20 #[iv x, iv (x - (48 : Int32)), .unset, .unset, .unset] [(.int (0 : Int32))]) (fun t k => XS.iconst X0.here hx rfl (hb hby own_d2_19) k) ?_
    refine own_go (mkF m 21 #[iv x, iv (x - (48 : Int32)), iv (0 : Int32), .unset, .unset] []) (fun t k => XS.istoreN X0.here hx rfl (hb hby own_d2_20) rfl (l' := #[iv x, iv (x - (48 : Int32)), iv (0 : Int32), .unset, .unset]) rfl k) ?_
    refine own_go (mkF m 22 #[iv x, iv (x - (48 : Int32)), iv (0 : Int32), .unset, .unset] [(.int x)]) (fun t k => XS.iloadN X0.here hx rfl (hb hby own_d2_21) rfl  k) ?_
    refine own_go (mkF m 24 #[iv x, iv (x - (48 : Int32)), iv (0 : Int32), .unset, .unset] [(.int (32 : Int32)), (.int x)]) (fun t k => XS.bipush X0.here hx rfl (hb hby own_d2_22) k) ?_
    refine own_go (mkF m 25 #[iv x, iv (x - (48 : Int32)), iv (0 : Int32), .unset, .unset] [(.int (x ||| (32 : Int32)))]) (fun t k => XS.ior X0.here hx rfl (hb hby own_d2_24) rfl k) ?_
    refine own_go (mkF m 27 #[iv x, iv (x - (48 : Int32)), iv (0 : Int32), .unset, .unset] [(.int (97 : Int32)), (.int (x ||| (32 : Int32)))]) (fun t k => XS.bipush X0.here hx rfl (hb hby own_d2_25) k) ?_
    refine own_go (mkF m 28 #[iv x, iv (x - (48 : Int32)), iv (0 : Int32), .unset, .unset] [(.int ((x ||| (32 : Int32)) - (97 : Int32)))]) (fun t k => XS.isub X0.here hx rfl (hb hby own_d2_27) rfl k) ?_
    refine own_go (mkF m 29 #[iv x, iv (x - (48 : Int32)), iv (0 : Int32), iv ((x ||| (32 : Int32)) - (97 : Int32)), .unset] []) (fun t k => XS.istoreN X0.here hx rfl (hb hby own_d2_28) rfl (l' := #[iv x, iv (x - (48 : Int32)), iv (0 : Int32), iv ((x ||| (32 : Int32)) - (97 : Int32)), .unset]) rfl k) ?_
    refine own_go (mkF m 30 #[iv x, iv (x - (48 : Int32)), iv (0 : Int32), iv ((x ||| (32 : Int32)) - (97 : Int32)), .unset] [(.int ((x ||| (32 : Int32)) - (97 : Int32)))]) (fun t k => XS.iloadN X0.here hx rfl (hb hby own_d2_29) rfl  k) ?_
    by_cases hc30 : ((x ||| (32 : Int32)) - (97 : Int32)) < (0 : Int32)
    · skip
      refine own_go (mkF m 43 #[iv x, iv (x - (48 : Int32)), iv (0 : Int32), iv ((x ||| (32 : Int32)) - (97 : Int32)), .unset] []) (fun t k => XS.ifYes X0.here hx rfl (pc0 := 30) (pc' := 43) rfl (hb hby own_d2_30) rfl ((if0 _ _).trans (tlt hc30).1) (by decide) (by decide) k) ?_
      refine own_go (mkF m 44 #[iv x, iv (x - (48 : Int32)), iv (0 : Int32), iv ((x ||| (32 : Int32)) - (97 : Int32)), .unset] [(.int (0 : Int32))]) (fun t k => XS.iconst X0.here hx rfl (hb hby own_d2_43) k) ?_
      refine own_go (mkF m 46 #[iv x, iv (x - (48 : Int32)), iv (0 : Int32), iv ((x ||| (32 : Int32)) - (97 : Int32)), iv (0 : Int32)] []) (fun t k => XS.istore X0.here hx rfl (hb hby own_d2_44) rfl (l' := #[iv x, iv (x - (48 : Int32)), iv (0 : Int32), iv ((x ||| (32 : Int32)) - (97 : Int32)), iv (0 : Int32)]) rfl k) ?_
      refine own_go (mkF m 47 #[iv x, iv (x - (48 : Int32)), iv (0 : Int32), iv ((x ||| (32 : Int32)) - (97 : Int32)), iv (0 : Int32)] [(.int (0 : Int32))]) (fun t k => XS.iloadN X0.here hx rfl (hb hby own_d2_46) rfl  k) ?_
      refine own_go (mkF m 50 #[iv x, iv (x - (48 : Int32)), iv (0 : Int32), iv ((x ||| (32 : Int32)) - (97 : Int32)), iv (0 : Int32)] []) (fun t k => XS.ifNo X0.here hx rfl (hb hby own_d2_47) rfl ((if0 _ _).trans (teq (by decide)).2) k) ?_
      refine own_go (mkF m 52 #[iv x, iv (x - (48 : Int32)), iv (0 : Int32), iv ((x ||| (32 : Int32)) - (97 : Int32)), iv (0 : Int32)] [(.int (0 : Int32))]) (fun t k => XS.iload X0.here hx rfl (hb hby own_d2_50) rfl  k) ?_
      refine own_go (mkF m 59 #[iv x, iv (x - (48 : Int32)), iv (0 : Int32), iv ((x ||| (32 : Int32)) - (97 : Int32)), iv (0 : Int32)] []) (fun t k => XS.ifYes X0.here hx rfl (pc0 := 52) (pc' := 59) rfl (hb hby own_d2_52) rfl ((if0 _ _).trans (teq (by decide)).1) (by decide) (by decide) k) ?_
      refine own_go (mkF m 60 #[iv x, iv (x - (48 : Int32)), iv (0 : Int32), iv ((x ||| (32 : Int32)) - (97 : Int32)), iv (0 : Int32)] [(.int (0 : Int32))]) (fun t k => XS.iconst X0.here hx rfl (hb hby own_d2_59) k) ?_
      refine own_retZ X0 hx hlk hret (hb hby own_d2_60) ?_ (by decide) (by decide)
      exact ⟨congrArg (fun z => some (Value.int z)) ((show (own_ref x) = (0 : Int32) from ((if_pos hc6).trans ((if_pos hc30).trans rfl))).trans (by decide : (0 : Int32) = ((0 : Int32) &&& 1))).symm, e0, rfl⟩
    · skip
      refine own_go (mkF m 33 #[iv x, iv (x - (48 : Int32)), iv (0 : Int32), iv ((x ||| (32 : Int32)) - (97 : Int32)), .unset] []) (fun t k => XS.ifNo X0.here hx rfl (hb hby own_d2_30) rfl ((if0 _ _).trans (flt hc30).1) k) ?_
      refine own_go (mkF m 34 #[iv x, iv (x - (48 : Int32)), iv (0 : Int32), iv ((x ||| (32 : Int32)) - (97 : Int32)), .unset] [(.int ((x ||| (32 : Int32)) - (97 : Int32)))]) (fun t k => XS.iloadN X0.here hx rfl (hb hby own_d2_33) rfl  k) ?_
      refine own_go (mkF m 36 #[iv x, iv (x - (48 : Int32)), iv (0 : Int32), iv ((x ||| (32 : Int32)) - (97 : Int32)), .unset] [(.int (6 : Int32)), (.int ((x ||| (32 : Int32)) - (97 : Int32)))]) (fun t k => XS.bipush X0.here hx rfl (hb hby own_d2_34) k) ?_
      by_cases hc36 : ((x ||| (32 : Int32)) - (97 : Int32)) < (6 : Int32)
      · skip
        refine own_go (mkF m 39 #[iv x, iv (x - (48 : Int32)), iv (0 : Int32), iv ((x ||| (32 : Int32)) - (97 : Int32)), .unset] []) (fun t k => XS.icmpNo X0.here hx rfl (hb hby own_d2_36) rfl (tlt hc36).2.1 k) ?_
        refine own_go (mkF m 40 #[iv x, iv (x - (48 : Int32)), iv (0 : Int32), iv ((x ||| (32 : Int32)) - (97 : Int32)), .unset] [(.int (1 : Int32))]) (fun t k => XS.iconst X0.here hx rfl (hb hby own_d2_39) k) ?_
        refine own_go (mkF m 44 #[iv x, iv (x - (48 : Int32)), iv (0 : Int32), iv ((x ||| (32 : Int32)) - (97 : Int32)), .unset] [(.int (1 : Int32))]) (fun t k => XS.goto X0.here hx rfl (pc0 := 40) (pc' := 44) rfl (hb hby own_d2_40) (by decide) (by decide) k) ?_
        refine own_go (mkF m 46 #[iv x, iv (x - (48 : Int32)), iv (0 : Int32), iv ((x ||| (32 : Int32)) - (97 : Int32)), iv (1 : Int32)] []) (fun t k => XS.istore X0.here hx rfl (hb hby own_d2_44) rfl (l' := #[iv x, iv (x - (48 : Int32)), iv (0 : Int32), iv ((x ||| (32 : Int32)) - (97 : Int32)), iv (1 : Int32)]) rfl k) ?_
        refine own_go (mkF m 47 #[iv x, iv (x - (48 : Int32)), iv (0 : Int32), iv ((x ||| (32 : Int32)) - (97 : Int32)), iv (1 : Int32)] [(.int (0 : Int32))]) (fun t k => XS.iloadN X0.here hx rfl (hb hby own_d2_46) rfl  k) ?_
        refine own_go (mkF m 50 #[iv x, iv (x - (48 : Int32)), iv (0 : Int32), iv ((x ||| (32 : Int32)) - (97 : Int32)), iv (1 : Int32)] []) (fun t k => XS.ifNo X0.here hx rfl (hb hby own_d2_47) rfl ((if0 _ _).trans (teq (by decide)).2) k) ?_
        refine own_go (mkF m 52 #[iv x, iv (x - (48 : Int32)), iv (0 : Int32), iv ((x ||| (32 : Int32)) - (97 : Int32)), iv (1 : Int32)] [(.int (1 : Int32))]) (fun t k => XS.iload X0.here hx rfl (hb hby own_d2_50) rfl  k) ?_
        refine own_go (mkF m 55 #[iv x, iv (x - (48 : Int32)), iv (0 : Int32), iv ((x ||| (32 : Int32)) - (97 : Int32)), iv (1 : Int32)] []) (fun t k => XS.ifNo X0.here hx rfl (hb hby own_d2_52) rfl ((if0 _ _).trans (feq (by decide)).1) k) ?_
        refine own_go (mkF m 56 #[iv x, iv (x - (48 : Int32)), iv (0 : Int32), iv ((x ||| (32 : Int32)) - (97 : Int32)), iv (1 : Int32)] [(.int (1 : Int32))]) (fun t k => XS.iconst X0.here hx rfl (hb hby own_d2_55) k) ?_
        refine own_go (mkF m 60 #[iv x, iv (x - (48 : Int32)), iv (0 : Int32), iv ((x ||| (32 : Int32)) - (97 : Int32)), iv (1 : Int32)] [(.int (1 : Int32))]) (fun t k => XS.goto X0.here hx rfl (pc0 := 56) (pc' := 60) rfl (hb hby own_d2_56) (by decide) (by decide) k) ?_
        refine own_retZ X0 hx hlk hret (hb hby own_d2_60) ?_ (by decide) (by decide)
        exact ⟨congrArg (fun z => some (Value.int z)) ((show (own_ref x) = (1 : Int32) from ((if_pos hc6).trans ((if_neg hc30).trans ((if_pos hc36).trans rfl)))).trans (by decide : (1 : Int32) = ((1 : Int32) &&& 1))).symm, e0, rfl⟩
      · skip
        refine own_go (mkF m 43 #[iv x, iv (x - (48 : Int32)), iv (0 : Int32), iv ((x ||| (32 : Int32)) - (97 : Int32)), .unset] []) (fun t k => XS.icmpYes X0.here hx rfl (pc0 := 36) (pc' := 43) rfl (hb hby own_d2_36) rfl (flt hc36).2.1 (by decide) (by decide) k) ?_
        refine own_go (mkF m 44 #[iv x, iv (x - (48 : Int32)), iv (0 : Int32), iv ((x ||| (32 : Int32)) - (97 : Int32)), .unset] [(.int (0 : Int32))]) (fun t k => XS.iconst X0.here hx rfl (hb hby own_d2_43) k) ?_
        refine own_go (mkF m 46 #[iv x, iv (x - (48 : Int32)), iv (0 : Int32), iv ((x ||| (32 : Int32)) - (97 : Int32)), iv (0 : Int32)] []) (fun t k => XS.istore X0.here hx rfl (hb hby own_d2_44) rfl (l' := #[iv x, iv (x - (48 : Int32)), iv (0 : Int32), iv ((x ||| (32 : Int32)) - (97 : Int32)), iv (0 : Int32)]) rfl k) ?_
        refine own_go (mkF m 47 #[iv x, iv (x - (48 : Int32)), iv (0 : Int32), iv ((x ||| (32 : Int32)) - (97 : Int32)), iv (0 : Int32)] [(.int (0 : Int32))]) (fun t k => XS.iloadN X0.here hx rfl (hb hby own_d2_46) rfl  k) ?_
        refine own_go (mkF m 50 #[iv x, iv (x - (48 : Int32)), iv (0 : Int32), iv ((x ||| (32 : Int32)) - (97 : Int32)), iv (0 : Int32)] []) (fun t k => XS.ifNo X0.here hx rfl (hb hby own_d2_47) rfl ((if0 _ _).trans (teq (by decide)).2) k) ?_
        refine own_go (mkF m 52 #[iv x, iv (x - (48 : Int32)), iv (0 : Int32), iv ((x ||| (32 : Int32)) - (97 : Int32)), iv (0 : Int32)] [(.int (0 : Int32))]) (fun t k => XS.iload X0.here hx rfl (hb hby own_d2_50) rfl  k) ?_
        refine own_go (mkF m 59 #[iv x, iv (x - (48 : Int32)), iv (0 : Int32), iv ((x ||| (32 : Int32)) - (97 : Int32)), iv (0 : Int32)] []) (fun t k => XS.ifYes X0.here hx rfl (pc0 := 52) (pc' := 59) rfl (hb hby own_d2_52) rfl ((if0 _ _).trans (teq (by decide)).1) (by decide) (by decide) k) ?_
        refine own_go (mkF m 60 #[iv x, iv (x - (48 : Int32)), iv (0 : Int32), iv ((x ||| (32 : Int32)) - (97 : Int32)), iv (0 : Int32)] [(.int (0 : Int32))]) (fun t k => XS.iconst X0.here hx rfl (hb hby own_d2_59) k) ?_
        refine own_retZ X0 hx hlk hret (hb hby own_d2_60) ?_ (by decide) (by decide)
        exact ⟨congrArg (fun z => some (Value.int z)) ((show (own_ref x) = (0 : Int32) from ((if_pos hc6).trans ((if_neg hc30).trans ((if_neg hc36).trans rfl)))).trans (by decide : (0 : Int32) = ((0 : Int32) &&& 1))).symm, e0, rfl⟩
  · skip
    refine own_go (mkF m 9 #[iv x, iv (x - (48 : Int32)), .unset, .unset, .unset] []) (fun t k => XS.ifNo X0.here hx rfl (hb hby own_d2_6) rfl ((if0 _ _).trans (flt hc6).1) k) ?_
    refine own_go (mkF m 10 #[iv x, iv (x - (48 : Int32)), .unset, .unset, .unset] [(.int (x - (48 : Int32)))]) (fun t k => XS.iloadN X0.here hx rfl (hb hby own_d2_9) rfl  k) ?_
    refine own_go (mkF m 12 #[iv x, iv (x - (48 : Int32)), .unset, .unset, .unset] [(.int (10 : Int32)), (.int (x - (48 : Int32)))]) (fun t k => XS.bipush X0.here hx rfl (hb hby own_d2_10) k) ?_
    by_cases hc12 : (x - (48 : Int32)) < (10 : Int32)
    · skip
      refine own_go (mkF m 15 #[iv x, iv (x - (48 : Int32)), .unset, .unset, .unset] []) (fun t k => XS.icmpNo X0.here hx rfl (hb hby own_d2_12) rfl (tlt hc12).2.1 k) ?_
      refine own_go (mkF m 16 #[iv x, iv (x - (48 : Int32)), .unset, .unset, .unset] [(.int (1 : Int32))]) (fun t k => XS.iconst X0.here hx rfl (hb hby own_d2_15) k) ?_
      refine own_go (mkF m 20 #[iv x, iv (x - (48 : Int32)), .unset, .unset, .unset] [(.int (1 : Int32))]) (fun t k => XS.goto X0.here hx rfl (pc0 := 16) (pc' := 20) rfl (hb hby own_d2_16) (by decide) (by decide) k) ?_
      refine own_go (mkF m 21 #[iv x, iv (x - (48 : Int32)), iv (1 : Int32), .unset, .unset] []) (fun t k => XS.istoreN X0.here hx rfl (hb hby own_d2_20) rfl (l' := #[iv x, iv (x - (48 : Int32)), iv (1 : Int32), .unset, .unset]) rfl k) ?_
      refine own_go (mkF m 22 #[iv x, iv (x - (48 : Int32)), iv (1 : Int32), .unset, .unset] [(.int x)]) (fun t k => XS.iloadN X0.here hx rfl (hb hby own_d2_21) rfl  k) ?_
      refine own_go (mkF m 24 #[iv x, iv (x - (48 : Int32)), iv (1 : Int32), .unset, .unset] [(.int (32 : Int32)), (.int x)]) (fun t k => XS.bipush X0.here hx rfl (hb hby own_d2_22) k) ?_
      refine own_go (mkF m 25 #[iv x, iv (x - (48 : Int32)), iv (1 : Int32), .unset, .unset] [(.int (x ||| (32 : Int32)))]) (fun t k => XS.ior X0.here hx rfl (hb hby own_d2_24) rfl k) ?_
      refine own_go (mkF m 27 #[iv x, iv (x - (48 : Int32)), iv (1 : Int32), .unset, .unset] [(.int (97 : Int32)), (.int (x ||| (32 : Int32)))]) (fun t k => XS.bipush X0.here hx rfl (hb hby own_d2_25) k) ?_
      refine own_go (mkF m 28 #[iv x, iv (x - (48 : Int32)), iv (1 : Int32), .unset, .unset] [(.int ((x ||| (32 : Int32)) - (97 : Int32)))]) (fun t k => XS.isub X0.here hx rfl (hb hby own_d2_27) rfl k) ?_
      refine own_go (mkF m 29 #[iv x, iv (x - (48 : Int32)), iv (1 : Int32), iv ((x ||| (32 : Int32)) - (97 : Int32)), .unset] []) (fun t k => XS.istoreN X0.here hx rfl (hb hby own_d2_28) rfl (l' := #[iv x, iv (x - (48 : Int32)), iv (1 : Int32), iv ((x ||| (32 : Int32)) - (97 : Int32)), .unset]) rfl k) ?_
      refine own_go (mkF m 30 #[iv x, iv (x - (48 : Int32)), iv (1 : Int32), iv ((x ||| (32 : Int32)) - (97 : Int32)), .unset] [(.int ((x ||| (32 : Int32)) - (97 : Int32)))]) (fun t k => XS.iloadN X0.here hx rfl (hb hby own_d2_29) rfl  k) ?_
      by_cases hc30 : ((x ||| (32 : Int32)) - (97 : Int32)) < (0 : Int32)
      · skip
        refine own_go (mkF m 43 #[iv x, iv (x - (48 : Int32)), iv (1 : Int32), iv ((x ||| (32 : Int32)) - (97 : Int32)), .unset] []) (fun t k => XS.ifYes X0.here hx rfl (pc0 := 30) (pc' := 43) rfl (hb hby own_d2_30) rfl ((if0 _ _).trans (tlt hc30).1) (by decide) (by decide) k) ?_
        refine own_go (mkF m 44 #[iv x, iv (x - (48 : Int32)), iv (1 : Int32), iv ((x ||| (32 : Int32)) - (97 : Int32)), .unset] [(.int (0 : Int32))]) (fun t k => XS.iconst X0.here hx rfl (hb hby own_d2_43) k) ?_
        refine own_go (mkF m 46 #[iv x, iv (x - (48 : Int32)), iv (1 : Int32), iv ((x ||| (32 : Int32)) - (97 : Int32)), iv (0 : Int32)] []) (fun t k => XS.istore X0.here hx rfl (hb hby own_d2_44) rfl (l' := #[iv x, iv (x - (48 : Int32)), iv (1 : Int32), iv ((x ||| (32 : Int32)) - (97 : Int32)), iv (0 : Int32)]) rfl k) ?_
        refine own_go (mkF m 47 #[iv x, iv (x - (48 : Int32)), iv (1 : Int32), iv ((x ||| (32 : Int32)) - (97 : Int32)), iv (0 : Int32)] [(.int (1 : Int32))]) (fun t k => XS.iloadN X0.here hx rfl (hb hby own_d2_46) rfl  k) ?_
        refine own_go (mkF m 55 #[iv x, iv (x - (48 : Int32)), iv (1 : Int32), iv ((x ||| (32 : Int32)) - (97 : Int32)), iv (0 : Int32)] []) (fun t k => XS.ifYes X0.here hx rfl (pc0 := 47) (pc' := 55) rfl (hb hby own_d2_47) rfl ((if0 _ _).trans (feq (by decide)).2) (by decide) (by decide) k) ?_
        refine own_go (mkF m 56 #[iv x, iv (x - (48 : Int32)), iv (1 : Int32), iv ((x ||| (32 : Int32)) - (97 : Int32)), iv (0 : Int32)] [(.int (1 : Int32))]) (fun t k => XS.iconst X0.here hx rfl (hb hby own_d2_55) k) ?_
        refine own_go (mkF m 60 #[iv x, iv (x - (48 : Int32)), iv (1 : Int32), iv ((x ||| (32 : Int32)) - (97 : Int32)), iv (0 : Int32)] [(.int (1 : Int32))]) (fun t k => XS.goto X0.here hx rfl (pc0 := 56) (pc' := 60) rfl (hb hby own_d2_56) (by decide) (by decide) k) ?_
        refine own_retZ X0 hx hlk hret (hb hby own_d2_60) ?_ (by decide) (by decide)
        exact ⟨congrArg (fun z => some (Value.int z)) ((show (own_ref x) = (1 : Int32) from ((if_neg hc6).trans ((if_pos hc12).trans ((if_pos hc30).trans rfl)))).trans (by decide : (1 : Int32) = ((1 : Int32) &&& 1))).symm, e0, rfl⟩
      · skip
        refine own_go (mkF m 33 #[iv x, iv (x - (48 : Int32)), iv (1 : Int32), iv ((x ||| (32 : Int32)) - (97 : Int32)), .unset] []) (fun t k => XS.ifNo X0.here hx rfl (hb hby own_d2_30) rfl ((if0 _ _).trans (flt hc30).1) k) ?_
        refine own_go (mkF m 34 #[iv x, iv (x - (48 : Int32)), iv (1 : Int32), iv ((x ||| (32 : Int32)) - (97 : Int32)), .unset] [(.int ((x ||| (32 : Int32)) - (97 : Int32)))]) (fun t k => XS.iloadN X0.here hx rfl (hb hby own_d2_33) rfl  k) ?_
        refine own_go (mkF m 36 #[iv x, iv (x - (48 : Int32)), iv (1 : Int32), iv ((x ||| (32 : Int32)) - (97 : Int32)), .unset] [(.int (6 : Int32)), (.int ((x ||| (32 : Int32)) - (97 : Int32)))]) (fun t k => XS.bipush X0.here hx rfl (hb hby own_d2_34) k) ?_
        by_cases hc36 : ((x ||| (32 : Int32)) - (97 : Int32)) < (6 : Int32)
        · skip
          refine own_go (mkF m 39 #[iv x, iv (x - (48 : Int32)), iv (1 : Int32), iv ((x ||| (32 : Int32)) - (97 : Int32)), .unset] []) (fun t k => XS.icmpNo X0.here hx rfl (hb hby own_d2_36) rfl (tlt hc36).2.1 k) ?_
          refine own_go (mkF m 40 #[iv x, iv (x - (48 : Int32)), iv (1 : Int32), iv ((x ||| (32 : Int32)) - (97 : Int32)), .unset] [(.int (1 : Int32))]) (fun t k => XS.iconst X0.here hx rfl (hb hby own_d2_39) k) ?_
          refine own_go (mkF m 44 #[iv x, iv (x - (48 : Int32)), iv (1 : Int32), iv ((x ||| (32 : Int32)) - (97 : Int32)), .unset] [(.int (1 : Int32))]) (fun t k => XS.goto X0.here hx rfl (pc0 := 40) (pc' := 44) rfl (hb hby own_d2_40) (by decide) (by decide) k) ?_
          refine own_go (mkF m 46 #[iv x, iv (x - (48 : Int32)), iv (1 : Int32), iv ((x ||| (32 : Int32)) - (97 : Int32)), iv (1 : Int32)] []) (fun t k => XS.istore X0.here hx rfl (hb hby own_d2_44) rfl (l' := #[iv x, iv (x - (48 : Int32)), iv (1 : Int32), iv ((x ||| (32 : Int32)) - (97 : Int32)), iv (1 : Int32)]) rfl k) ?_
          refine own_go (mkF m 47 #[iv x, iv (x - (48 : Int32)), iv (1 : Int32), iv ((x ||| (32 : Int32)) - (97 : Int32)), iv (1 : Int32)] [(.int (1 : Int32))]) (fun t k => XS.iloadN X0.here hx rfl (hb hby own_d2_46) rfl  k) ?_
          refine own_go (mkF m 55 #[iv x, iv (x - (48 : Int32)), iv (1 : Int32), iv ((x ||| (32 : Int32)) - (97 : Int32)), iv (1 : Int32)] []) (fun t k => XS.ifYes X0.here hx rfl (pc0 := 47) (pc' := 55) rfl (hb hby own_d2_47) rfl ((if0 _ _).trans (feq (by decide)).2) (by decide) (by decide) k) ?_
          refine own_go (mkF m 56 #[iv x, iv (x - (48 : Int32)), iv (1 : Int32), iv ((x ||| (32 : Int32)) - (97 : Int32)), iv (1 : Int32)] [(.int (1 : Int32))]) (fun t k => XS.iconst X0.here hx rfl (hb hby own_d2_55) k) ?_
          refine own_go (mkF m 60 #[iv x, iv (x - (48 : Int32)), iv (1 : Int32), iv ((x ||| (32 : Int32)) - (97 : Int32)), iv (1 : Int32)] [(.int (1 : Int32))]) (fun t k => XS.goto X0.here hx rfl (pc0 := 56) (pc' := 60) rfl (hb hby own_d2_56) (by decide) (by decide) k) ?_
          refine own_retZ X0 hx hlk hret (hb hby own_d2_60) ?_ (by decide) (by decide)
          exact ⟨congrArg (fun z => some (Value.int z)) ((show (own_ref x) = (1 : Int32) from ((if_neg hc6).trans ((if_pos hc12).trans ((if_neg hc30).trans ((if_pos hc36).trans rfl))))).trans (by decide : (1 : Int32) = ((1 : Int32) &&& 1))).symm, e0, rfl⟩
        · skip
          refine own_go (mkF m 43 #[iv x, iv (x - (48 : Int32)), iv (1 : Int32), iv ((x ||| (32 : Int32)) - (97 : Int32)), .unset] []) (fun t k => XS.icmpYes X0.here hx rfl (pc0 := 36) (pc' := 43) rfl (hb hby own_d2_36) rfl (flt hc36).2.1 (by decide) (by decide) k) ?_
          refine own_go (mkF m 44 #[iv x, iv (x - (48 : Int32)), iv (1 : Int32), iv ((x ||| (32 : Int32)) - (97 : Int32)), .unset] [(.int (0 : Int32))]) (fun t k => XS.iconst X0.here hx rfl (hb hby own_d2_43) k) ?_
          refine own_go (mkF m 46 #[iv x, iv (x - (48 : Int32)), iv (1 : Int32), iv ((x ||| (32 : Int32)) - (97 : Int32)), iv (0 : Int32)] []) (fun t k => XS.istore X0.here hx rfl (hb hby own_d2_44) rfl (l' := #[iv x, iv (x - (48 : Int32)), iv (1 : Int32), iv ((x ||| (32 : Int32)) - (97 : Int32)), iv (0 : Int32)]) rfl k) ?_
          refine own_go (mkF m 47 #[iv x, iv (x - (48 : Int32)), iv (1 : Int32), iv ((x ||| (32 : Int32)) - (97 : Int32)), iv (0 : Int32)] [(.int (1 : Int32))]) (fun t k => XS.iloadN X0.here hx rfl (hb hby own_d2_46) rfl  k) ?_
          refine own_go (mkF m 55 #[iv x, iv (x - (48 : Int32)), iv (1 : Int32), iv ((x ||| (32 : Int32)) - (97 : Int32)), iv (0 : Int32)] []) (fun t k => XS.ifYes X0.here hx rfl (pc0 := 47) (pc' := 55) rfl (hb hby own_d2_47) rfl ((if0 _ _).trans (feq (by decide)).2) (by decide) (by decide) k) ?_
          refine own_go (mkF m 56 #[iv x, iv (x - (48 : Int32)), iv (1 : Int32), iv ((x ||| (32 : Int32)) - (97 : Int32)), iv (0 : Int32)] [(.int (1 : Int32))]) (fun t k => XS.iconst X0.here hx rfl (hb hby own_d2_55) k) ?_
          refine own_go (mkF m 60 #[iv x, iv (x - (48 : Int32)), iv (1 : Int32), iv ((x ||| (32 : Int32)) - (97 : Int32)), iv (0 : Int32)] [(.int (1 : Int32))]) (fun t k => XS.goto X0.here hx rfl (pc0 := 56) (pc' := 60) rfl (hb hby own_d2_56) (by decide) (by decide) k) ?_
          refine own_retZ X0 hx hlk hret (hb hby own_d2_60) ?_ (by decide) (by decide)
          exact ⟨congrArg (fun z => some (Value.int z)) ((show (own_ref x) = (1 : Int32) from ((if_neg hc6).trans ((if_pos hc12).trans ((if_neg hc30).trans ((if_neg hc36).trans rfl))))).trans (by decide : (1 : Int32) = ((1 : Int32) &&& 1))).symm, e0, rfl⟩
    · skip
      refine own_go (mkF m 19 #[iv x, iv (x - (48 : Int32)), .unset, .unset, .unset] []) (fun t k => XS.icmpYes X0.here hx rfl (pc0 := 12) (pc' := 19) rfl (hb hby own_d2_12) rfl (flt hc12).2.1 (by decide) (by decide) k) ?_
      refine own_go (mkF m 20 #[iv x, iv (x - (48 : Int32)), .unset, .unset, .unset] [(.int (0 : Int32))]) (fun t k => XS.iconst X0.here hx rfl (hb hby own_d2_19) k) ?_
      refine own_go (mkF m 21 #[iv x, iv (x - (48 : Int32)), iv (0 : Int32), .unset, .unset] []) (fun t k => XS.istoreN X0.here hx rfl (hb hby own_d2_20) rfl (l' := #[iv x, iv (x - (48 : Int32)), iv (0 : Int32), .unset, .unset]) rfl k) ?_
      refine own_go (mkF m 22 #[iv x, iv (x - (48 : Int32)), iv (0 : Int32), .unset, .unset] [(.int x)]) (fun t k => XS.iloadN X0.here hx rfl (hb hby own_d2_21) rfl  k) ?_
      refine own_go (mkF m 24 #[iv x, iv (x - (48 : Int32)), iv (0 : Int32), .unset, .unset] [(.int (32 : Int32)), (.int x)]) (fun t k => XS.bipush X0.here hx rfl (hb hby own_d2_22) k) ?_
      refine own_go (mkF m 25 #[iv x, iv (x - (48 : Int32)), iv (0 : Int32), .unset, .unset] [(.int (x ||| (32 : Int32)))]) (fun t k => XS.ior X0.here hx rfl (hb hby own_d2_24) rfl k) ?_
      refine own_go (mkF m 27 #[iv x, iv (x - (48 : Int32)), iv (0 : Int32), .unset, .unset] [(.int (97 : Int32)), (.int (x ||| (32 : Int32)))]) (fun t k => XS.bipush X0.here hx rfl (hb hby own_d2_25) k) ?_
      refine own_go (mkF m 28 #[iv x, iv (x - (48 : Int32)), iv (0 : Int32), .unset, .unset] [(.int ((x ||| (32 : Int32)) - (97 : Int32)))]) (fun t k => XS.isub X0.here hx rfl (hb hby own_d2_27) rfl k) ?_
      refine own_go (mkF m 29 #[iv x, iv (x - (48 : Int32)), iv (0 : Int32), iv ((x ||| (32 : Int32)) - (97 : Int32)), .unset] []) (fun t k => XS.istoreN X0.here hx rfl (hb hby own_d2_28) rfl (l' := #[iv x, iv (x - (48 : Int32)), iv (0 : Int32), iv ((x ||| (32 : Int32)) - (97 : Int32)), .unset]) rfl k) ?_
      refine own_go (mkF m 30 #[iv x, iv (x - (48 : Int32)), iv (0 : Int32), iv ((x ||| (32 : Int32)) - (97 : Int32)), .unset] [(.int ((x ||| (32 : Int32)) - (97 : Int32)))]) (fun t k => XS.iloadN X0.here hx rfl (hb hby own_d2_29) rfl  k) ?_
      by_cases hc30 : ((x ||| (32 : Int32)) - (97 : Int32)) < (0 : Int32)
      · skip
        refine own_go (mkF m 43 #[iv x, iv (x - (48 : Int32)), iv (0 : Int32), iv ((x ||| (32 : Int32)) - (97 : Int32)), .unset] []) (fun t k => XS.ifYes X0.here hx rfl (pc0 := 30) (pc' := 43) rfl (hb hby own_d2_30) rfl ((if0 _ _).trans (tlt hc30).1) (by decide) (by decide) k) ?_
        refine own_go (mkF m 44 #[iv x, iv (x - (48 : Int32)), iv (0 : Int32), iv ((x ||| (32 : Int32)) - (97 : Int32)), .unset] [(.int (0 : Int32))]) (fun t k => XS.iconst X0.here hx rfl (hb hby own_d2_43) k) ?_
        refine own_go (mkF m 46 #[iv x, iv (x - (48 : Int32)), iv (0 : Int32), iv ((x ||| (32 : Int32)) - (97 : Int32)), iv (0 : Int32)] []) (fun t k => XS.istore X0.here hx rfl (hb hby own_d2_44) rfl (l' := #[iv x, iv (x - (48 : Int32)), iv (0 : Int32), iv ((x ||| (32 : Int32)) - (97 : Int32)), iv (0 : Int32)]) rfl k) ?_
        refine own_go (mkF m 47 #[iv x, iv (x - (48 : Int32)), iv (0 : Int32), iv ((x ||| (32 : Int32)) - (97 : Int32)), iv (0 : Int32)] [(.int (0 : Int32))]) (fun t k => XS.iloadN X0.here hx rfl (hb hby own_d2_46) rfl  k) ?_
        refine own_go (mkF m 50 #[iv x, iv (x - (48 : Int32)), iv (0 : Int32), iv ((x ||| (32 : Int32)) - (97 : Int32)), iv (0 : Int32)] []) (fun t k => XS.ifNo X0.here hx rfl (hb hby own_d2_47) rfl ((if0 _ _).trans (teq (by decide)).2) k) ?_
        refine own_go (mkF m 52 #[iv x, iv (x - (48 : Int32)), iv (0 : Int32), iv ((x ||| (32 : Int32)) - (97 : Int32)), iv (0 : Int32)] [(.int (0 : Int32))]) (fun t k => XS.iload X0.here hx rfl (hb hby own_d2_50) rfl  k) ?_
        refine own_go (mkF m 59 #[iv x, iv (x - (48 : Int32)), iv (0 : Int32), iv ((x ||| (32 : Int32)) - (97 : Int32)), iv (0 : Int32)] []) (fun t k => XS.ifYes X0.here hx rfl (pc0 := 52) (pc' := 59) rfl (hb hby own_d2_52) rfl ((if0 _ _).trans (teq (by decide)).1) (by decide) (by decide) k) ?_
        refine own_go (mkF m 60 #[iv x, iv (x - (48 : Int32)), iv (0 : Int32), iv ((x ||| (32 : Int32)) - (97 : Int32)), iv (0 : Int32)] [(.int (0 : Int32))]) (fun t k => XS.iconst X0.here hx rfl (hb hby own_d2_59) k) ?_
        refine own_retZ X0 hx hlk hret (hb hby own_d2_60) ?_ (by decide) (by decide)
        exact ⟨congrArg (fun z => some (Value.int z)) ((show (own_ref x) = (0 : Int32) from ((if_neg hc6).trans ((if_neg hc12).trans ((if_pos hc30).trans rfl)))).trans (by decide : (0 : Int32) = ((0 : Int32) &&& 1))).symm, e0, rfl⟩
      · skip
        refine own_go (mkF m 33 #[iv x, iv (x - (48 : Int32)), iv (0 : Int32), iv ((x ||| (32 : Int32)) - (97 : Int32)), .unset] []) (fun t k => XS.ifNo X0.here hx rfl (hb hby own_d2_30) rfl ((if0 _ _).trans (flt hc30).1) k) ?_
        refine own_go (mkF m 34 #[iv x, iv (x - (48 : Int32)), iv (0 : Int32), iv ((x ||| (32 : Int32)) - (97 : Int32)), .unset] [(.int ((x ||| (32 : Int32)) - (97 : Int32)))]) (fun t k => XS.iloadN X0.here hx rfl (hb hby own_d2_33) rfl  k) ?_
        refine own_go (mkF m 36 #[iv x, iv (x - (48 : Int32)), iv (0 : Int32), iv ((x ||| (32 : Int32)) - (97 : Int32)), .unset] [(.int (6 : Int32)), (.int ((x ||| (32 : Int32)) - (97 : Int32)))]) (fun t k => XS.bipush X0.here hx rfl (hb hby own_d2_34) k) ?_
        by_cases hc36 : ((x ||| (32 : Int32)) - (97 : Int32)) < (6 : Int32)
        · skip
          refine own_go (mkF m 39 #[iv x, iv (x - (48 : Int32)), iv (0 : Int32), iv ((x ||| (32 : Int32)) - (97 : Int32)), .unset] []) (fun t k => XS.icmpNo X0.here hx rfl (hb hby own_d2_36) rfl (tlt hc36).2.1 k) ?_
          refine own_go (mkF m 40 #[iv x, iv (x - (48 : Int32)), iv (0 : Int32), iv ((x ||| (32 : Int32)) - (97 : Int32)), .unset] [(.int (1 : Int32))]) (fun t k => XS.iconst X0.here hx rfl (hb hby own_d2_39) k) ?_
          refine own_go (mkF m 44 #[iv x, iv (x - (48 : Int32)), iv (0 : Int32), iv ((x ||| (32 : Int32)) - (97 : Int32)), .unset] [(.int (1 : Int32))]) (fun t k => XS.goto X0.here hx rfl (pc0 := 40) (pc' := 44) rfl (hb hby own_d2_40) (by decide) (by decide) k) ?_
          refine own_go (mkF m 46 #[iv x, iv (x - (48 : Int32)), iv (0 : Int32), iv ((x ||| (32 : Int32)) - (97 : Int32)), iv (1 : Int32)] []) (fun t k => XS.istore X0.here hx rfl (hb hby own_d2_44) rfl (l' := #[iv x, iv (x - (48 : Int32)), iv (0 : Int32), iv ((x ||| (32 : Int32)) - (97 : Int32)), iv (1 : Int32)]) rfl k) ?_
          refine own_go (mkF m 47 #[iv x, iv (x - (48 : Int32)), iv (0 : Int32), iv ((x ||| (32 : Int32)) - (97 : Int32)), iv (1 : Int32)] [(.int (0 : Int32))]) (fun t k => XS.iloadN X0.here hx rfl (hb hby own_d2_46) rfl  k) ?_
          refine own_go (mkF m 50 #[iv x, iv (x - (48 : Int32)), iv (0 : Int32), iv ((x ||| (32 : Int32)) - (97 : Int32)), iv (1 : Int32)] []) (fun t k => XS.ifNo X0.here hx rfl (hb hby own_d2_47) rfl ((if0 _ _).trans (teq (by decide)).2) k) ?_
          refine own_go (mkF m 52 #[iv x, iv (x - (48 : Int32)), iv (0 : Int32), iv ((x ||| (32 : Int32)) - (97 : Int32)), iv (1 : Int32)] [(.int (1 : Int32))]) (fun t k => XS.iload X0.here hx rfl (hb hby own_d2_50) rfl  k) ?_
          refine own_go (mkF m 55 #[iv x, iv (x - (48 : Int32)), iv (0 : Int32), iv ((x ||| (32 : Int32)) - (97 : Int32)), iv (1 : Int32)] []) (fun t k => XS.ifNo X0.here hx rfl (hb hby own_d2_52) rfl ((if0 _ _).trans (feq (by decide)).1) k) ?_
          refine own_go (mkF m 56 #[iv x, iv (x - (48 : Int32)), iv (0 : Int32), iv ((x ||| (32 : Int32)) - (97 : Int32)), iv (1 : Int32)] [(.int (1 : Int32))]) (fun t k => XS.iconst X0.here hx rfl (hb hby own_d2_55) k) ?_
          refine own_go (mkF m 60 #[iv x, iv (x - (48 : Int32)), iv (0 : Int32), iv ((x ||| (32 : Int32)) - (97 : Int32)), iv (1 : Int32)] [(.int (1 : Int32))]) (fun t k => XS.goto X0.here hx rfl (pc0 := 56) (pc' := 60) rfl (hb hby own_d2_56) (by decide) (by decide) k) ?_
          refine own_retZ X0 hx hlk hret (hb hby own_d2_60) ?_ (by decide) (by decide)
          exact ⟨congrArg (fun z => some (Value.int z)) ((show (own_ref x) = (1 : Int32) from ((if_neg hc6).trans ((if_neg hc12).trans ((if_neg hc30).trans ((if_pos hc36).trans rfl))))).trans (by decide : (1 : Int32) = ((1 : Int32) &&& 1))).symm, e0, rfl⟩
        · skip
          refine own_go (mkF m 43 #[iv x, iv (x - (48 : Int32)), iv (0 : Int32), iv ((x ||| (32 : Int32)) - (97 : Int32)), .unset] []) (fun t k => XS.icmpYes X0.here hx rfl (pc0 := 36) (pc' := 43) rfl (hb hby own_d2_36) rfl (flt hc36).2.1 (by decide) (by decide) k) ?_
          refine own_go (mkF m 44 #[iv x, iv (x - (48 : Int32)), iv (0 : Int32), iv ((x ||| (32 : Int32)) - (97 : Int32)), .unset] [(.int (0 : Int32))]) (fun t k => XS.iconst X0.here hx rfl (hb hby own_d2_43) k) ?_
          refine own_go (mkF m 46 #[iv x, iv (x - (48 : Int32)), iv (0 : Int32), iv ((x ||| (32 : Int32)) - (97 : Int32)), iv (0 : Int32)] []) (fun t k => XS.istore X0.here hx rfl (hb hby own_d2_44) rfl (l' := #[iv x, iv (x - (48 : Int32)), iv (0 : Int32), iv ((x ||| (32 : Int32)) - (97 : Int32)), iv (0 : Int32)]) rfl k) ?_
          refine own_go (mkF m 47 #[iv x, iv (x - (48 : Int32)), iv (0 : Int32), iv ((x ||| (32 : Int32)) - (97 : Int32)), iv (0 : Int32)] [(.int (0 : Int32))]) (fun t k => XS.iloadN X0.here hx rfl (hb hby own_d2_46) rfl  k) ?_
          refine own_go (mkF m 50 #[iv x, iv (x - (48 : Int32)), iv (0 : Int32), iv ((x ||| (32 : Int32)) - (97 : Int32)), iv (0 : Int32)] []) (fun t k => XS.ifNo X0.here hx rfl (hb hby own_d2_47) rfl ((if0 _ _).trans (teq (by decide)).2) k) ?_
          refine own_go (mkF m 52 #[iv x, iv (x - (48 : Int32)), iv (0 : Int32), iv ((x ||| (32 : Int32)) - (97 : Int32)), iv (0 : Int32)] [(.int (0 : Int32))]) (fun t k => XS.iload X0.here hx rfl (hb hby own_d2_50) rfl  k) ?_
          refine own_go (mkF m 59 #[iv x, iv (x - (48 : Int32)), iv (0 : Int32), iv ((x ||| (32 : Int32)) - (97 : Int32)), iv (0 : Int32)] []) (fun t k => XS.ifYes X0.here hx rfl (pc0 := 52) (pc' := 59) rfl (hb hby own_d2_52) rfl ((if0 _ _).trans (teq (by decide)).1) (by decide) (by decide) k) ?_
          refine own_go (mkF m 60 #[iv x, iv (x - (48 : Int32)), iv (0 : Int32), iv ((x ||| (32 : Int32)) - (97 : Int32)), iv (0 : Int32)] [(.int (0 : Int32))]) (fun t k => XS.iconst X0.here hx rfl (hb hby own_d2_59) k) ?_
          refine own_retZ X0 hx hlk hret (hb hby own_d2_60) ?_ (by decide) (by decide)
          exact ⟨congrArg (fun z => some (Value.int z)) ((show (own_ref x) = (0 : Int32) from ((if_neg hc6).trans ((if_neg hc12).trans ((if_neg hc30).trans ((if_neg hc36).trans rfl))))).trans (by decide : (0 : Int32) = ((0 : Int32) &&& 1))).symm, e0, rfl⟩


theorem own_or32 (n : Nat) : n ||| 32 = if n / 32 % 2 = 1 then n else n + 32 := by
  have e : n = 2 ^ 6 * (n / 64) + n % 64 := by omega
  have hlt : n % 64 < 2 ^ 6 := by omega
  have h1 : n ||| 32 = 2 ^ 6 * (n / 64) + (n % 64 ||| 32) := by
    have hlt2 : n % 64 ||| 32 < 2 ^ 6 := Nat.or_lt_two_pow hlt (by decide)
    rw [Nat.two_pow_add_eq_or_of_lt hlt2]
    conv => lhs; rw [e]
    rw [Nat.two_pow_add_eq_or_of_lt hlt, Nat.or_assoc]
  have h2 : ∀ r : Fin 64, (r.val ||| 32) = if r.val / 32 % 2 = 1 then r.val else r.val + 32 := by decide +kernel
  have h3 : (n % 64 ||| 32) = if n % 64 / 32 % 2 = 1 then n % 64 else n % 64 + 32 := h2 ⟨n % 64, hlt⟩
  rw [h1, h3]
  split <;> split <;> omega
theorem own_c16 (x : Int32) : x.toUInt32.toUInt16.toUInt32.toInt32.toBitVec.toNat < 65536 := by
  simp
  omega
theorem own_toInt {c : Int32} (h : c.toBitVec.toNat < 65536) : c.toInt = (c.toBitVec.toNat : Int) := by
  have : c.toInt = c.toBitVec.toInt := rfl
  rw [this, BitVec.toInt_eq_toNat_cond, if_pos (by omega)]
theorem own_orInt {c : Int32} (h : c.toBitVec.toNat < 65536) : (c ||| 32).toInt = if c.toInt / 32 % 2 = 1 then c.toInt else c.toInt + 32 := by
  have e : (c ||| 32).toBitVec.toNat = c.toBitVec.toNat ||| 32 := by simp [BitVec.toNat_or]
  have hb : (c ||| 32).toBitVec.toNat < 65536 := by rw [e]; exact Nat.or_lt_two_pow (n := 16) h (by decide)
  rw [own_toInt hb, own_toInt h, e, own_or32]
  split <;> split <;> omega

set_option maxHeartbeats 4000000 in
theorem own_law {c : Int32} (h : c.toBitVec.toNat < 65536) : own_hex c = own_ref c := by
  have h1 := own_orInt h
  have h2 := own_toInt h
  have e32_48 : (48 : Int32).toInt = 48 := rfl
  have e32_57 : (57 : Int32).toInt = 57 := rfl
  have e32_97 : (97 : Int32).toInt = 97 := rfl
  have e32_102 : (102 : Int32).toInt = 102 := rfl
  have e32_65 : (65 : Int32).toInt = 65 := rfl
  have e32_70 : (70 : Int32).toInt = 70 := rfl
  have e32_10 : (10 : Int32).toInt = 10 := rfl
  have e32_6 : (6 : Int32).toInt = 6 := rfl
  have e32_0 : (0 : Int32).toInt = 0 := rfl
  have s1 : (c - 48).toInt = c.toInt - 48 := Jvm.Kit.i32_sub (by omega) (by omega)
  have s2 : ((c ||| 32) - 97).toInt = (c ||| 32).toInt - 97 := Jvm.Kit.i32_sub (by split at h1 <;> omega) (by split at h1 <;> omega)
  unfold own_hex own_ref
  simp only [Int32.lt_iff_toInt_lt, s1, s2, e32_48, e32_57, e32_97, e32_102, e32_65, e32_70, e32_10, e32_6, e32_0]
  generalize (c ||| 32).toInt = q at *
  generalize c.toInt = r at *
  split at h1 <;> (repeat' split) <;> first | rfl | omega

theorem own_pn_own_rm0 : plainFor x = true := plainFor_of_name (show plainName "com/example/alcuin/alcuin/util/AsciiIsHexDigitPinLaw" = true by first | (simp [plainName, overriddenIn]; done) | decide +kernel)
set_option maxRecDepth 65536 in
set_option maxHeartbeats 40000000 in
theorem own_rm0 (l : Launch) (Z : State) (a0 : Array Value) (hw : ∀ d ∈ tables_1, d.before a0 Z = true) (ws : List Jvm.Cond) (h0 : Heap) (x0 : Int32)  :
    own_C l Z x code maxLocals ret ws room_1 #[(.int x0)] h0 (fun v h L => v = some (.int 1) ∧ Fr h0.size L) := by
  refine own_met own_pn_own_rm0 #[iv x0, .unset] (fun m => by first | (simp [entryFrame, mkF, argsToLocals, Value.category, maxLocals]; done) | rfl) ?_
  intro p e s m below meth c s₁ hx hby hml hown hret hlk hZ hnm X0 e0
  replace hml : c.maxLocals = 2 := hml
  refine own_go (mkF m 1 #[iv x0, .unset] [(.int x0)]) (fun t k => XS.iloadN X0.here hx rfl (hb hby at_0) rfl  k) ?_
  refine own_go (mkF m 3 #[iv x0, .unset] [(.int (65535 : Int32)), (.int x0)]) (fun t k => X0.ldcInt hx hown (mvT hZ (hw _ (List.mem_of_getElem? (i := 0) rfl))) (g := (mkF m 1 #[iv x0, .unset] [(.int x0)])) rfl (hb hby at_1) _ k) ?_
  refine own_go (mkF m 4 #[iv x0, .unset] [(.int (x0 &&& (65535 : Int32)))]) (fun t k => XS.iand X0.here hx rfl (hb hby at_3) rfl k) ?_
  refine own_go (mkF m 5 #[iv x0, .unset] [(.int ((x0 &&& (65535 : Int32)).toUInt32.toUInt16.toUInt32.toInt32))]) (fun t k => XS.i2c X0.here hx rfl (hb hby at_4) rfl k) ?_
  have hb16 := own_c16 (x0 &&& (65535 : Int32))
  generalize (x0 &&& (65535 : Int32)).toUInt32.toUInt16.toUInt32.toInt32 = ch at hb16 ⊢
  refine own_go (mkF m 6 #[iv x0, iv ch] []) (fun t k => XS.istoreN X0.here hx rfl (hb hby at_5) rfl (l' := #[iv x0, iv ch]) rfl k) ?_
  refine own_go (mkF m 7 #[iv x0, iv ch] [(.int ch)]) (fun t k => XS.iloadN X0.here hx rfl (hb hby at_6) rfl  k) ?_
  refine own_callP X0 hx hZ (y := (⟨"com/example/alcuin/alcuin/util/Ascii", "isHexDigit", "(C)Z"⟩ : MethodName)) (fr := 0) (lo := 0) (r := (.int (own_hex ch))) hown (hw _ (List.mem_of_getElem? (i := 1) rfl)) (hw _ (List.mem_of_getElem? (i := 2) rfl)) (hw _ (List.mem_of_getElem? (i := 3) rfl)) (hw _ (List.mem_of_getElem? (i := 4) rfl)) (by decide) e0 [(.int ch)] [] (own_rm1 l Z a0 hw [] h0 ch) 0 (by decide) (by decide) (Nat.le_of_eq rfl) (by decide) (by decide) (by rw [hml]; rfl) (lenOf own_pd0 rfl) rfl (hb hby at_7) ?_
  intro T1 X1 e1
  refine own_go (mkF m 11 #[iv x0, iv ch] [(.int ch), (.int (own_hex ch))]) (fun t k => XS.iloadN X1.here hx rfl (hb hby at_10) rfl  k) ?_
  refine own_callP X1 hx hZ (y := (⟨"com/example/alcuin/alcuin/util/AsciiIsHexDigitPinLaw", "reference", "(C)Z"⟩ : MethodName)) (fr := 0) (lo := 0) (r := (.int (own_ref ch))) hown (hw _ (List.mem_of_getElem? (i := 5) rfl)) (hw _ (List.mem_of_getElem? (i := 6) rfl)) (hw _ (List.mem_of_getElem? (i := 7) rfl)) (hw _ (List.mem_of_getElem? (i := 8) rfl)) (by decide) e1 [(.int ch)] [(.int (own_hex ch))] (own_rm2 l Z a0 hw [] h0 ch) 1 (by decide) (by decide) (Nat.le_of_eq rfl) (by decide) (by decide) (by rw [hml]; rfl) (lenOf own_pd0 rfl) rfl (hb hby at_11) ?_
  intro T2 X2 e2
  refine own_go (mkF m 17 #[iv x0, iv ch] []) (fun t k => XS.icmpNo X2.here hx rfl (hb hby at_14) rfl (teq (own_law hb16)).2 k) ?_
  refine own_go (mkF m 18 #[iv x0, iv ch] [(.int (1 : Int32))]) (fun t k => XS.iconst X2.here hx rfl (hb hby at_17) k) ?_
  refine own_go (mkF m 22 #[iv x0, iv ch] [(.int (1 : Int32))]) (fun t k => XS.goto X2.here hx rfl (pc0 := 18) (pc' := 22) rfl (hb hby at_18) (by decide) (by decide) k) ?_
  refine own_retZ X2 hx hlk hret (hb hby at_22) ?_ (by decide) (by decide)
  exact ⟨rfl, Fr.nil _⟩

set_option maxRecDepth 65536 in
set_option maxHeartbeats 40000000 in
theorem comes_1 {Post : Tables → Env → Array Value → State → Outcome → State → Prop} (hpost : ∀ tb e args s v u, (limb_1_1.after args s (.returned v) u = true ∧ limb_1_2.after args s (.returned v) u = true ∧ True) → FrameEnd s (.returned v) u (Jvm.fieldLocs frame_1_writes args s ++ Jvm.arrayLocs frame_1_arrays args s ++ Jvm.staticLocs frame_1_statics s) 0 0 → Post tb e args s (.returned v) u) :
    ArmFor flags0 classFile x code maxLocals ret World_1 tables_1 room_1 Calls_1 rest_1 Pre_1 Post := by
  intro l hfl _ _ p e ha hc hk s m args below hf hA hF happ hP
  obtain ⟨hcalls, hrest, hpre⟩ := hP
  obtain ⟨-, -, -, hnamed, -, -, -, hat⟩ := (Spec.applies_iff hf).mp happ
  obtain ⟨hg, hn⟩ := and_e (Cond.before_iff.mp (show (Jvm.Cond.and given_1 narrow_1).before args s = true from hpre))
  obtain ⟨g1, g2⟩ := and_e hg
  obtain ⟨w0, rfl⟩ : ∃ w0 : Value, args = #[w0] := by
    have hs : args.size = 1 := by simpa [Cond.value, given_1] using g1
    obtain ⟨L⟩ := args
    match L, hs with
    | [w0], _ => exact ⟨w0, rfl⟩
  have hw := fun d (hd : d ∈ tables_1) => atoms_spec (ws := Jvm.Cond.code x code maxLocals ret :: tables_1) hat d (List.mem_cons_of_mem _ hd)
  obtain ⟨i0, ei0⟩ := is_v g2
  obtain rfl : w0 = (.int i0) := Option.some.inj ei0
  obtain ⟨n, o, h1, h2, h3, _, L, rfl, ⟨rfl, N⟩, hq⟩ := own_rm0 l s _ hw tables_1 s.heap i0  p e ha hc hk s m _ below hf ((Spec.applies_iff_loose hf).mp happ).1 ⟨rfl, State.Warmed39.refl s, rfl⟩ trivial
  refine ⟨n, _, h1, h2, h3, hpost _ _ _ _ _ _ ⟨Cond.after_iff.mpr rfl, Cond.after_iff.mpr (eq_i res_at (Term.int_eval (1)) rfl), trivial⟩ ⟨hq.1, hq.2.1, (hq.2.2.sift fun y hy => Or.inr (N y hy)).mono (by decide) (by decide)⟩⟩
theorem main_1_1 : Claimed_1_1 := comes_1 fun _ _ _ _ _ _ h hF => ⟨h.1, hF⟩
theorem main_1_2 : Claimed_1_2 := comes_1 fun _ _ _ _ _ _ h hF => ⟨h.2.1, hF⟩
end Jvm.Pilot.@@N@@
namespace Jvm.Pilot.@@N@@
open Jvm Jvm.ClassFile Sem Op Lib Jvm.Free Jvm.Stand Jvm.Pilot.@@N@@.Jvm.D
/-! MADE BY PROGRAM (witnessworld.py) out of the Statement's table words and the real class files: 9 classes; the members and pool entries that the words name. The judged class is class 1, her method 2. -/
namespace start1
open Jvm.ClassFile
def u (s : String) : CpInfo := .utf8 (stringToUtf16 s)
/-- a pool by its gaps: so many unusable entries, then the entry; so many at the end -/
def gap : Nat → List CpInfo → List CpInfo
  | 0, r => r
  | n + 1, r => .unusable :: gap n r
def poolList (es : List (Nat × CpInfo)) (last : Nat) : List CpInfo := es.foldr (fun e r => gap e.1 (e.2 :: r)) (gap last [])
def pool (es : List (Nat × CpInfo)) (last : Nat) : Array CpInfo := ⟨poolList es last⟩
def fileOf (pool : Array CpInfo) (this : Nat) (attrs : Array Attribute := #[]) (ms : Array MethodInfo := #[]) (fl : Nat := 33) (sup : Nat := 0) (ifs : Array Nat := #[]) (fds : Array FieldInfo := #[]) : ClassFile where
  minorVersion := 0
  majorVersion := 65
  constantPool := pool
  accessFlags := fl
  thisClass := this
  superClass := sup
  interfaces := ifs
  fields := fds
  methods := ms
  attributes := attrs
def plain (name : String) (sup : Option ClassId) : Class where
  name := name
  kind := .ordinary
  loader := none
  accessFlags := 33
  super := sup
  interfaces := #[]
  cf := none
  fields := #[]
  methods := #[]
  instanceTypes := #[]
  staticTypes := #[]
  resolved := #[]
  callSites := []
  init := .initialized
  statics := none
  mirror := none

def pool0 : Array CpInfo := pool [(5, u "<init>"), (0, u "()V"), (1, .class_ 10), (1, u "java/lang/Object")] 113

def k0m0 : Method := { name := "<init>", desc := "()V", sig := { parameters := [], returnType := none }, accessFlags := 1, code := none }
/-- java/lang/Object -/
def k0 : Class := { plain "java/lang/Object" none with
  accessFlags := 33
  interfaces := #[]
  cf := some (fileOf pool0 8 #[] #[{ accessFlags := 1, nameIndex := 5, descriptorIndex := 6, attributes := #[] }] 33 0 #[] #[])
  fields := #[]
  methods := #[k0m0]
  instanceTypes := #[]
  staticTypes := #[]
  resolved := Array.replicate 124 none
  statics := none }

def pool1 : Array CpInfo := pool [(2, .class_ 4), (1, u "java/lang/Object"), (0, u "<init>"), (0, u "()V"), (0, .integer 65535), (0, .methodref 9 10), (0, .class_ 11), (0, .nameAndType 12 13), (0, u "com/example/alcuin/alcuin/util/Ascii"), (0, u "isHexDigit"), (0, u "(C)Z"), (0, .methodref 15 16), (0, .class_ 17), (0, .nameAndType 18 13), (0, u "com/example/alcuin/alcuin/util/AsciiIsHexDigitPinLaw"), (0, u "reference"), (3, u "law"), (0, u "(I)Z")] 2

def k1m0 : Method := { name := "<init>", desc := "()V", sig := { parameters := [], returnType := none }, accessFlags := 2, code := none }
def k1c1 : Code := { maxStack := 2, maxLocals := 5, code := method_2_code, exceptionTable := #[], attributes := #[] }
def k1m1 : Method := { name := "reference", desc := "(C)Z", sig := { parameters := [.char], returnType := some .boolean }, accessFlags := 10, code := some k1c1 }
def k1c2 : Code := { maxStack := 2, maxLocals := 2, code := code, exceptionTable := #[], attributes := #[] }
def k1m2 : Method := { name := "law", desc := "(I)Z", sig := { parameters := [.int], returnType := some .boolean }, accessFlags := 9, code := some k1c2 }
/-- com/example/alcuin/alcuin/util/AsciiIsHexDigitPinLaw -/
def k1 : Class := { plain "com/example/alcuin/alcuin/util/AsciiIsHexDigitPinLaw" (some 0) with
  accessFlags := 49
  interfaces := #[]
  cf := some (fileOf pool1 15 #[] #[{ accessFlags := 2, nameIndex := 5, descriptorIndex := 6, attributes := #[] }, { accessFlags := 10, nameIndex := 18, descriptorIndex := 13, attributes := #[] }, { accessFlags := 9, nameIndex := 22, descriptorIndex := 23, attributes := #[] }] 49 2 #[] #[])
  fields := #[]
  methods := #[k1m0, k1m1, k1m2]
  instanceTypes := #[]
  staticTypes := #[]
  resolved := Array.replicate 26 none
  statics := none }

def pool2 : Array CpInfo := pool [(2, .class_ 4), (1, u "java/lang/Object"), (0, u "<init>"), (0, u "()V"), (0, .class_ 8), (0, u "com/example/alcuin/alcuin/util/Ascii"), (2, u "isHexDigit"), (0, u "(C)Z")] 3

def k2m0 : Method := { name := "<init>", desc := "()V", sig := { parameters := [], returnType := none }, accessFlags := 2, code := none }
def k2c1 : Code := { maxStack := 2, maxLocals := 1, code := prog_98_method_2_code, exceptionTable := #[], attributes := #[] }
def k2m1 : Method := { name := "isHexDigit", desc := "(C)Z", sig := { parameters := [.char], returnType := some .boolean }, accessFlags := 9, code := some k2c1 }
/-- com/example/alcuin/alcuin/util/Ascii -/
def k2 : Class := { plain "com/example/alcuin/alcuin/util/Ascii" (some 0) with
  accessFlags := 49
  interfaces := #[]
  cf := some (fileOf pool2 7 #[] #[{ accessFlags := 2, nameIndex := 5, descriptorIndex := 6, attributes := #[] }, { accessFlags := 9, nameIndex := 11, descriptorIndex := 12, attributes := #[] }] 49 2 #[] #[])
  fields := #[]
  methods := #[k2m0, k2m1]
  instanceTypes := #[]
  staticTypes := #[]
  resolved := Array.replicate 16 none
  statics := none }

def pool3 : Array CpInfo := pool [(1, u "java/lang/Cloneable"), (0, .class_ 1), (0, u "java/lang/Object"), (0, .class_ 3)] 3

/-- java/lang/Cloneable -/
def k3 : Class := { plain "java/lang/Cloneable" (some 0) with
  accessFlags := 1537
  interfaces := #[]
  cf := some (fileOf pool3 2 #[] #[] 1537 4 #[] #[])
  fields := #[]
  methods := #[]
  instanceTypes := #[]
  staticTypes := #[]
  resolved := Array.replicate 8 none
  statics := none }

def pool4 : Array CpInfo := pool [(1, u "java/io/Serializable"), (0, .class_ 1), (0, u "java/lang/Object"), (0, .class_ 3)] 3

/-- java/io/Serializable -/
def k4 : Class := { plain "java/io/Serializable" (some 0) with
  accessFlags := 1537
  interfaces := #[]
  cf := some (fileOf pool4 2 #[] #[] 1537 4 #[] #[])
  fields := #[]
  methods := #[]
  instanceTypes := #[]
  staticTypes := #[]
  resolved := Array.replicate 8 none
  statics := none }

/-- the primitive byte -/
def k5 : Class := { plain "byte" none with kind := .primitive 'B', accessFlags := 0x411 }
/-- [B -/
def k6 : Class := { plain "[B" (some 0) with kind := .array 5 .byte, interfaces := #[3, 4], accessFlags := 1041 }

/-- the primitive int -/
def k7 : Class := { plain "int" none with kind := .primitive 'I', accessFlags := 0x411 }
/-- [I -/
def k8 : Class := { plain "[I" (some 0) with kind := .array 7 .int, interfaces := #[3, 4], accessFlags := 1041 }

def heap : Heap := #[]
def classes : Array Class := #[k0, k1, k2, k3, k4, k5, k6, k7, k8]
def interned : List (Array UInt16 × Addr) := []
def slotsUsed : Nat := 0
def theMethod : MethodId := ⟨1, 2⟩
def args0 : Array Value := #[.int 5]
def aboutOver (below : List Frame) : State where
  vm := { classes := classes, interned := interned.toArray }
  heap := heap
  slotsUsed := slotsUsed
  threads := #[{ frames := .invoking theMethod args0 :: below }]
def below0 : List Frame := [.native { method := ⟨0, 0⟩, args := #[] }]
def about1 : State := aboutOver below0
def p0 : Program := .bare "" "" ""
def e0 : Env := launch0.env 0 0 0
theorem w_frames : about1.frames = Frame.invoking theMethod args0 :: below0 := rfl
set_option maxRecDepth 65536 in
theorem w_args : argsFit about1.vm theMethod args0 = true := by decide +kernel
set_option maxRecDepth 65536 in
theorem w_heap : heapFits about1 = true := by decide +kernel
set_option maxRecDepth 65536 in
theorem w_runnable : about1.curStatus? = some .runnable := by decide +kernel
set_option maxRecDepth 65536 in
theorem w_alone : about1.alone = true := by decide +kernel
set_option maxRecDepth 65536 in
theorem w_named : about1.methodNamed? x = some theMethod := by decide +kernel
set_option maxRecDepth 65536 in
theorem w_hears : about1.hears theMethod below0 = true := by decide +kernel
set_option maxRecDepth 65536 in
theorem w_ripe : about1.ripe theMethod args0 below0 = true := by decide +kernel
theorem w_running : about1.status = .running := rfl
set_option maxRecDepth 65536 in
theorem w_room : about1.hasRoom e0.platform room_1 = true :=
  launch0.hasRoom_least _ room_1 (by decide +kernel) (by decide +kernel) (by decide +kernel) (by decide +kernel) (by decide +kernel) (by decide +kernel)
theorem allAtoms_all (ts : List Jvm.Cond) (a : Array Jvm.Value) (st : Jvm.State) : (allAtoms ts).before a st = ts.all (fun c => c.before a st) := by
  induction ts with
  | nil => rfl
  | cons c t ih =>
    show (Jvm.Cond.and c (allAtoms t)).before a st = _
    rw [Jvm.Cond.before_and, ih, List.all_cons]
def words1 : List Jvm.Cond := Jvm.Cond.code x code maxLocals ret :: tables_1
/-- a 'code' word, met by the world's own term for the bytes: nothing is compared byte by byte -/
theorem code_word {y : MethodName} {bytes : ByteArray} {mx : Nat} {rt : Option FieldType} {a : Array Value} {s : State} {m : MethodId} {meth : Method} {c : Code} (h1 : s.methodNamed? y = some m) (h2 : s.vm.method? m = some meth) (h3 : meth.code = some c) (h4 : c.code = bytes)
    (h5 : (c.maxLocals == mx && c.exceptionTable.isEmpty && decide (c.maxStack ≤ mostOperands) && decide (meth.sig.returnType = rt) && !meth.locks && decide (parseMethodDescriptor y.desc = some meth.sig)) = true) : (Jvm.Cond.code y bytes mx rt).before a s = true := by
  simp only [Bool.and_eq_true, beq_iff_eq, Bool.not_eq_true', decide_eq_true_eq] at h5
  obtain ⟨⟨⟨⟨⟨g1, g2⟩, g3⟩, g4⟩, g5⟩, g6⟩ := h5
  simp [Cond.before, Cond.holds, Cond.value, h1, h2, h3, h4, g1, g2, g3, g4, g5, g6]
def isCode : Jvm.Cond → Bool
  | .code _ _ _ _ => true
  | _ => false
theorem all_split {L : List Jvm.Cond} {P : Jvm.Cond → Bool} (h1 : L.all (fun c => isCode c || P c) = true) (h2 : ∀ c ∈ L.filter isCode, P c = true) : L.all P = true := by
  refine List.all_eq_true.mpr fun c hc => ?_
  have h := List.all_eq_true.mp h1 c hc
  rcases Bool.eq_false_or_eq_true (isCode c) with hi | hi
  · exact h2 c (List.mem_filter.mpr ⟨hc, hi⟩)
  · simpa [hi] using h
set_option maxRecDepth 65536 in
theorem w_c0 : (Jvm.Cond.code x code maxLocals ret).before args0 about1 = true := code_word (m := ⟨1, 2⟩) (meth := k1m2) (c := k1c2) (by decide +kernel) rfl rfl rfl (by decide +kernel)
set_option maxRecDepth 65536 in
theorem w_c1 : (Jvm.Cond.code ({ cls := "com/example/alcuin/alcuin/util/Ascii", name := "isHexDigit", desc := "(C)Z" } : Jvm.MethodName) prog_98_method_2_code (1 : Nat) (Option.some Jvm.ClassFile.FieldType.boolean)).before args0 about1 = true := code_word (m := ⟨2, 1⟩) (meth := k2m1) (c := k2c1) (by decide +kernel) rfl rfl rfl (by decide +kernel)
set_option maxRecDepth 65536 in
theorem w_c2 : (Jvm.Cond.code ({ cls := "com/example/alcuin/alcuin/util/AsciiIsHexDigitPinLaw", name := "reference", desc := "(C)Z" } : Jvm.MethodName) method_2_code (5 : Nat) (Option.some Jvm.ClassFile.FieldType.boolean)).before args0 about1 = true := code_word (m := ⟨1, 1⟩) (meth := k1m1) (c := k1c1) (by decide +kernel) rfl rfl rfl (by decide +kernel)
def codes1 : List Jvm.Cond := [Jvm.Cond.code x code maxLocals ret, Jvm.Cond.code ({ cls := "com/example/alcuin/alcuin/util/Ascii", name := "isHexDigit", desc := "(C)Z" } : Jvm.MethodName) prog_98_method_2_code (1 : Nat) (Option.some Jvm.ClassFile.FieldType.boolean), Jvm.Cond.code ({ cls := "com/example/alcuin/alcuin/util/AsciiIsHexDigitPinLaw", name := "reference", desc := "(C)Z" } : Jvm.MethodName) method_2_code (5 : Nat) (Option.some Jvm.ClassFile.FieldType.boolean)]
set_option maxRecDepth 65536 in
theorem codes_eq : words1.filter isCode = codes1 := rfl
theorem w_codes : ∀ c ∈ words1.filter isCode, c.before args0 about1 = true := by
  rw [codes_eq]
  intro c hc
  simp only [codes1, List.mem_cons, List.not_mem_nil, or_false] at hc
  rcases hc with rfl | rfl | rfl
  · exact w_c0
  · exact w_c1
  · exact w_c2
set_option maxRecDepth 65536 in
theorem w_t1 : words1.all (fun c => isCode c || c.before args0 about1) = true := by decide +kernel
theorem w_tables : (allAtoms (Jvm.Cond.code x code maxLocals ret :: tables_1)).before args0 about1 = true := by
  rw [allAtoms_all]
  show words1.all (fun c => c.before args0 about1) = true
  refine all_split ?_ w_codes
  rw [w_t1]
set_option maxRecDepth 65536 in
theorem w_case : (Jvm.Cond.and given_1 narrow_1).before args0 about1 = true := by decide +kernel
theorem w_applies : (headSpec (Jvm.Cond.code x code maxLocals ret :: tables_1) room_1).applies x e0.platform about1 = true :=
  (Spec.applies_iff w_frames).mpr ⟨w_running, w_runnable, w_alone, w_named, w_hears, w_ripe, w_room, w_tables⟩
theorem atStart : AtStart classFile x code maxLocals ret World_1 tables_1 room_1 Calls_1 rest_1 Pre_1 launch0 p0 e0 about1 theMethod args0 below0 :=
  ⟨lists_1, trivial, launch0.admits_env _ _ _, launch0.least_env, fairChoices_fair.cas, fairChoices_fair.clock, w_frames, w_args, w_heap, w_applies, trivial, trivial, w_case⟩
end start1
theorem witness_1 : WitnessClaimed_1 := ⟨start1.p0, start1.e0, start1.about1, start1.theMethod, start1.args0, start1.below0, start1.atStart⟩
end Jvm.Pilot.@@N@@
