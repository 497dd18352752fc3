import JvmDerived
import JvmDerived.Pilot.@@N@@Statement
import JvmDerived.Pilot.@@N@@Code
set_option linter.unusedVariables false
set_option linter.unusedSimpArgs false
@@BLOCK:NumsL.lean.txt@@
namespace Jvm.Pilot.@@N@@
open Jvm Jvm.ClassFile Sem Op Lib Jvm.Free Jvm.Stand Jvm.LawKit Jvm.RoadKit Bundle Jvm.Pilot.@@N@@.Jvm.D
/-- a long's slot, written short -/
abbrev jv (x : Int64) : Slot := .val (.long x)
section OwnKit
variable {p : Program} {l : Launch} {e : Env} {R : Room} {s : State} {m : MethodId} {args : Array Value} {below : List Frame} {meth : Method} {c : Code} {T T' : State} {locs : List Loc} {cells slots : Nat} {Q : Option Value → Heap → List Loc → Prop} {kc ks : Nat} {g : JFrame} {Z : State} {a0 : Array Value} {h : Heap}
/-- what is left to do, from the state T with the top frame g: the run comes to the invocation's end, returns, and the end is as Q says -/
def own_G (p : Program) (e : Env) (below : List Frame) (s : State) (Q : Option Value → Heap → List Loc → Prop) (kc ks : Nat) (T : State) (g : JFrame) : Prop :=
  ∃ t o, Steps p.tables e below (T.setTop g) t ∧ t.status = .running ∧ Ended t below o ∧ ∃ v L, o = .returned v ∧ Q v t.heap L ∧ FrameEnd s o t L kc ks
theorem own_go (g' : JFrame) (k : ∀ t, Steps p.tables e below (T'.setTop g') t → Steps p.tables e below (T.setTop g) t) (h : own_G p e below s Q kc ks T' g') : own_G p e below s Q kc ks T g := by
  obtain ⟨t, o, h1, h2⟩ := h
  exact ⟨t, o, k t h1, h2⟩
theorem own_out (X : Stand p l e R s m args below meth c T locs cells slots) (hlk : meth.locks = false) {v : Option Value} (hv : meth.sig.returnType = none → v = none)
    (st : ∀ fs, (∀ (f : JFrame) (acts : List Action), f.method = m → f.locked = none → f.entered = [] → (doReturn e (T.setTop f) acts v).1 = T.setFrames fs) → Steps p.tables e below (T.setTop g) (T.setFrames fs))
    (hQ : Q v T.heap locs) (h1 : cells ≤ kc) (h2 : slots ≤ ks) : own_G p e below s Q kc ks T g := by
  obtain ⟨fs, hr, hrun, hended, hW, hsame⟩ := X.leave (v := v) hv hlk
  exact ⟨_, _, st fs hr, hrun, hended, v, locs, rfl, hQ, ⟨_, rfl⟩, hW, hsame.mono h1 h2⟩
theorem own_retI (X : Stand p l e R s m args below meth c T locs cells slots) (hx : p.tables.exec = Jvm.exec) (hlk : meth.locks = false) (hret : meth.sig.returnType = some .int) {pc : Nat} {Ls : Array Slot} {z : Int32} {rest : List Value} (hd : decode c.code pc = .ok (.ireturn, 1))
    (hQ : Q (some (.int z)) T.heap locs) (h1 : cells ≤ kc) (h2 : slots ≤ ks) : own_G p e below s Q kc ks T (mkF m pc Ls (.int z :: rest)) := by
  refine own_out X hlk (v := some (.int z)) (fun h => by rw [hret] at h; cases h) (fun fs hl => ?_) hQ h1 h2
  have hm' : T.vm.method? m = some meth := X.method'
  have hn : narrow .int (.int z) = .int z := rfl
  show Steps p.tables e below (T.setTop { method := m, pc := pc, locals := Ls, stack := _ :: rest, locked := none }) _
  jvm_step X.here [X.here.top, hx, hd, hm', hret, hn]
  first | (intro acts; rw [hl _ acts rfl rfl rfl]) | rw [hl _ _ rfl rfl rfl]
  exact Steps.refl _
theorem own_retZ (X : Stand p l e R s m args below meth c T locs cells slots) (hx : p.tables.exec = Jvm.exec) (hlk : meth.locks = false) (hret : meth.sig.returnType = some .boolean) {pc : Nat} {Ls : Array Slot} {z : Int32} {rest : List Value} (hd : decode c.code pc = .ok (.ireturn, 1))
    (hQ : Q (some (.int (z &&& 1))) T.heap locs) (h1 : cells ≤ kc) (h2 : slots ≤ ks) : own_G p e below s Q kc ks T (mkF m pc Ls (.int z :: rest)) :=
  own_out X hlk (v := some (.int (z &&& 1))) (fun h => by rw [hret] at h; cases h) (fun fs hl => retN X hx (t := .boolean) hret (by simp) hd hl) hQ h1 h2
theorem own_retJ (X : Stand p l e R s m args below meth c T locs cells slots) (hx : p.tables.exec = Jvm.exec) (hlk : meth.locks = false) (hret : meth.sig.returnType = some .long) {pc : Nat} {Ls : Array Slot} {z : Int64} (hd : decode c.code pc = .ok (.lreturn, 1))
    (hQ : Q (some (.long z)) T.heap locs) (h1 : cells ≤ kc) (h2 : slots ≤ ks) : own_G p e below s Q kc ks T (mkF m pc Ls [.long z]) :=
  own_out X hlk (v := some (.long z)) (fun h => by rw [hret] at h; cases h) (fun fs hl => X.lreturnOut hx hret hd hl) hQ h1 h2
theorem own_retA (X : Stand p l e R s m args below meth c T locs cells slots) (hx : p.tables.exec = Jvm.exec) (hlk : meth.locks = false) {t : FieldType} (hret : meth.sig.returnType = some t) (ht : t.isReference = true) {pc : Nat} {Ls : Array Slot} {z : Value} (hz : z.isRef = true) (hd : decode c.code pc = .ok (.areturn, 1))
    (hQ : Q (some z) T.heap locs) (h1 : cells ≤ kc) (h2 : slots ≤ ks) : own_G p e below s Q kc ks T (mkF m pc Ls [z]) :=
  own_out X hlk (v := some z) (fun h => by rw [hret] at h; cases h) (fun fs hl => X.areturnOut hx hz hret ht hd hl) hQ h1 h2
theorem own_retV (X : Stand p l e R s m args below meth c T locs cells slots) (hx : p.tables.exec = Jvm.exec) (hlk : meth.locks = false) (hret : meth.sig.returnType = none) {pc : Nat} {Ls : Array Slot} (hd : decode c.code pc = .ok (.return_, 1))
    (hQ : Q none T.heap locs) (h1 : cells ≤ kc) (h2 : slots ≤ ks) : own_G p e below s Q kc ks T (mkF m pc Ls []) :=
  own_out X hlk (v := none) (fun _ => rfl) (fun fs hl => X.returnOut hx hret hd hl) hQ h1 h2
/-- a method's contract at one heap and one row of arguments -/
def own_C (l : Launch) (Z : State) (y : MethodName) (bytes : ByteArray) (mx : Nat) (ret : Option FieldType) (ws : List Jvm.Cond) (rm : Room) (as : Array Value) (h0 : Heap) (Q : Option Value → Heap → List Loc → Prop) : Prop :=
  MetFree l y (head1 (Jvm.Cond.code y bytes mx ret :: ws) rm) (fun a U => a = as ∧ Z.Warmed39 U.vm ∧ U.heap = h0) (fun _ _ _ _ _ => True) (fun _ U o U' => ∃ v L, o = .returned v ∧ Q v U'.heap L ∧ FrameEnd U o U' L rm.cells rm.slots)
theorem own_met {y : MethodName} {bytes : ByteArray} {mx : Nat} {ret : Option FieldType} {ws : List Jvm.Cond} {rm : Room} {as : Array Value} {h0 : Heap} (hp : plainFor y = true) (L0 : Array Slot) (hef : ∀ m, entryFrame m as mx = mkF m 0 L0 [])
    (body : ∀ (p : Program) (e : Env) (s : State) (m : MethodId) (below : List Frame) (meth : Method) (c : Code) (s₁ : State), p.tables.exec = Jvm.exec → c.code = bytes → c.maxLocals = mx → s.vm.findClass y.cls = some m.cls → meth.sig.returnType = ret → meth.locks = false → Z.Warmed39 s.vm → meth.name = y.name →
      Stand p l e rm s m as below meth c s₁ [] 0 0 → s₁.heap = h0 → own_G p e below s Q rm.cells rm.slots s₁ (mkF m 0 L0 [])) :
    own_C l Z y bytes mx ret ws rm as h0 Q := by
  refine MetFree.of_bodySF hp hisR ?_
  intro p e s m args below meth c s₁ Bd hml0 hP hK
  obtain ⟨rfl, hZ, hh⟩ := hP
  have hown : s.vm.findClass y.cls = some m.cls := findClass_of_methodNamed Bd.named
  have hnm := (name_of_methodNamed Bd.named Bd.method).1
  have X0 : Stand p l e rm s m args below meth c s₁ [] 0 0 := Stand.of_body Bd
  have e0 : s₁.heap = h0 := by rw [← hh, Bd.state]; rfl
  obtain ⟨t, o, h1, h2⟩ := body p e s m below meth c s₁ Bd.exec Bd.bytes hml0 hown Bd.returns Bd.notSynchronized hZ hnm X0 e0
  exact ⟨t, o, castTop (hef m) h1, h2⟩
/-- a static call by the callee's contract -/
theorem own_callS (X : Stand p l e R s m args below meth c T locs cells slots) (hx : p.tables.exec = Jvm.exec) (hZ : Z.Warmed39 s.vm) {own : String} {index : Nat} {y : MethodName} {bytes : ByteArray} {mx : Nat} {ret : Option FieldType} {rm : Room} {Qc : Option Value → Heap → List Loc → Prop}
    (hown : s.vm.findClass own = some m.cls) (w1 : (Jvm.Cond.methodLink own index y).before a0 Z = true) (w2 : (Jvm.Cond.static y).before a0 Z = true) (w3 : (Jvm.Cond.initialized y.cls).before a0 Z = true) (w4 : (Jvm.Cond.code y bytes mx ret).before a0 Z = true) (hy : y.cls ≠ "java/lang/invoke/MethodHandle" ∧ y.cls ≠ "java/lang/invoke/VarHandle")
    (eT : T.heap = h) (argsL rest : List Value) (hM : own_C l Z y bytes mx ret [] rm argsL.toArray h Qc) (W : Nat) (hf : rm.frames + 1 ≤ R.frames) (hlo : W + (mx + 11) + rm.locals ≤ R.locals) (hW : (rest.map fun v => v.category).sum ≤ W) (hc : cells + rm.cells ≤ R.cells) (hs : slots + rm.slots ≤ R.slots)
    {pc : Nat} {Ls : Array Slot} {S : List Value} (hsize : Ls.size = c.maxLocals) (hlen : ∀ sig, parseMethodDescriptor y.desc = some sig → argsL.length = sig.parameters.length) (hS : S = argsL.reverse ++ rest) (hd : decode c.code pc = .ok (.invokestatic index, 3))
    (k : ∀ (T' : State) (v : Option Value) (L : List Loc), Stand p l e R s m args below meth c T' (locs ++ L) (cells + rm.cells) (slots + rm.slots) → Qc v T'.heap L → own_G p e below s Q kc ks T' (mkF m (pc + 3) Ls (v.toList ++ rest))) :
    own_G p e below s Q kc ks T (mkF m pc Ls S) := by
  obtain ⟨v, _, ⟨T', L', k', n'⟩, -, X', ⟨L, hQ, q1, q2, q3⟩, st⟩ := Jvm.LawKit.callS X hx (y := y) hown (mvT hZ w1) (mvT hZ w2) (mvT hZ w3) (mvT hZ w4) hy (backOf (W := W) hM hZ w4 w3 hf hlo) (g := mkF m pc Ls S) rfl hsize (argsL := argsL) (rest := rest) hlen hS (by show 2 * 0 + _ ≤ _; omega) hd (fun _ _ => ⟨rfl, eT, hc, hs⟩)
  dsimp only [Pt.U, Pt.locs, Pt.cells, Pt.slots] at X' q1 q2 q3 st hQ
  subst q1 q2 q3
  exact own_go _ st (k T' v L X' hQ)
/-- what a pure method's end is: this value, the heap as it was, no place written -/
def own_P (r : Value) (h0 : Heap) (v : Option Value) (h : Heap) (L : List Loc) : Prop := v = some r ∧ h = h0 ∧ L = []
/-- a static call of a pure method -/
theorem own_callP (X : Stand p l e R s m args below meth c T locs cells slots) (hx : p.tables.exec = Jvm.exec) (hZ : Z.Warmed39 s.vm) {own : String} {index : Nat} {y : MethodName} {bytes : ByteArray} {mx : Nat} {ret : Option FieldType} {fr lo : Nat} {r : Value}
    (hown : s.vm.findClass own = some m.cls) (w1 : (Jvm.Cond.methodLink own index y).before a0 Z = true) (w2 : (Jvm.Cond.static y).before a0 Z = true) (w3 : (Jvm.Cond.initialized y.cls).before a0 Z = true) (w4 : (Jvm.Cond.code y bytes mx ret).before a0 Z = true) (hy : y.cls ≠ "java/lang/invoke/MethodHandle" ∧ y.cls ≠ "java/lang/invoke/VarHandle")
    (eT : T.heap = h) (argsL rest : List Value) (hM : own_C l Z y bytes mx ret [] { frames := fr, cells := 0, slots := 0, locals := lo } argsL.toArray h (own_P r h)) (W : Nat) (hf : fr + 1 ≤ R.frames) (hlo : W + (mx + 11) + lo ≤ R.locals) (hW : (rest.map fun v => v.category).sum ≤ W) (hc : cells ≤ R.cells) (hs : slots ≤ R.slots)
    {pc : Nat} {Ls : Array Slot} {S : List Value} (hsize : Ls.size = c.maxLocals) (hlen : ∀ sig, parseMethodDescriptor y.desc = some sig → argsL.length = sig.parameters.length) (hS : S = argsL.reverse ++ rest) (hd : decode c.code pc = .ok (.invokestatic index, 3))
    (k : ∀ (T' : State), Stand p l e R s m args below meth c T' locs cells slots → T'.heap = h → own_G p e below s Q kc ks T' (mkF m (pc + 3) Ls (r :: rest))) :
    own_G p e below s Q kc ks T (mkF m pc Ls S) := by
  refine own_callS X hx hZ hown w1 w2 w3 w4 hy eT argsL rest hM W hf hlo hW hc hs hsize hlen hS hd ?_
  rintro T' v L X' ⟨rfl, q2, rfl⟩
  rw [List.append_nil] at X'
  exact k T' X' q2
/-- a constructor's call -/
theorem own_callI (X : Stand p l e R s m args below meth c T locs cells slots) (hx : p.tables.exec = Jvm.exec) (hZ : Z.Warmed39 s.vm) {own : String} {index : Nat} {y : MethodName} {bytes : ByteArray} {mx : Nat} {rm : Room} {Qc : Option Value → Heap → List Loc → Prop} (hy1 : y.name = "<init>")
    (hown : s.vm.findClass own = some m.cls) (w1 : (Jvm.Cond.methodLink own index y).before a0 Z = true) (w2 : (Jvm.Cond.instanceMethod y).before a0 Z = true) (w3 : (Jvm.Cond.initialized y.cls).before a0 Z = true) (w4 : (Jvm.Cond.code y bytes mx none).before a0 Z = true) (hy : y.cls ≠ "java/lang/invoke/MethodHandle" ∧ y.cls ≠ "java/lang/invoke/VarHandle")
    (eT : T.heap = h) (a : Addr) (argsL rest : List Value) (hM : own_C l Z y bytes mx none [] rm (.ref a :: argsL).toArray h Qc) (W : Nat) (hf : rm.frames + 1 ≤ R.frames) (hlo : W + (mx + 11) + rm.locals ≤ R.locals) (hW : (rest.map fun v => v.category).sum ≤ W) (hc : cells + rm.cells ≤ R.cells) (hs : slots + rm.slots ≤ R.slots)
    {pc : Nat} {Ls : Array Slot} {S : List Value} (hsize : Ls.size = c.maxLocals) (hlen : ∀ sig, parseMethodDescriptor y.desc = some sig → argsL.length = sig.parameters.length) (hS : S = argsL.reverse ++ .ref a :: rest) (hd : decode c.code pc = .ok (.invokespecial index, 3))
    (k : ∀ (T' : State) (v : Option Value) (L : List Loc), Stand p l e R s m args below meth c T' (locs ++ L) (cells + rm.cells) (slots + rm.slots) → Qc v T'.heap L → own_G p e below s Q kc ks T' (mkF m (pc + 3) Ls (v.toList ++ rest))) :
    own_G p e below s Q kc ks T (mkF m pc Ls S) := by
  obtain ⟨v, _, ⟨T', L', k', n'⟩, -, X', ⟨L, hQ, q1, q2, q3⟩, st⟩ := X.specialBack hx (y := y) hy1 hown (mvT hZ w1) (mvT hZ w2) (mvT hZ w4) hy (backOf (W := W) hM hZ w4 w3 hf hlo) (g := mkF m pc Ls S) rfl hsize (Steps.refl _) (a := a) (argsL := argsL) (rest := rest) hlen hS (by show 2 * 0 + _ ≤ _; omega) hd (fun _ _ => ⟨rfl, eT, hc, hs⟩)
  dsimp only [Pt.U, Pt.locs, Pt.cells, Pt.slots] at X' q1 q2 q3 st hQ
  subst q1 q2 q3
  exact own_go _ (fun t kt => st.trans kt) (k T' v L X' hQ)
/-- an instance method's call -/
theorem own_callV (X : Stand p l e R s m args below meth c T locs cells slots) (hx : p.tables.exec = Jvm.exec) (hZ : Z.Warmed39 s.vm) {own C : String} {index : Nat} {y : MethodName} {bytes : ByteArray} {mx : Nat} {ret : Option FieldType} {rm : Room} {Qc : Option Value → Heap → List Loc → Prop}
    (hown : s.vm.findClass own = some m.cls) (w1 : (Jvm.Cond.methodLink own index y).before a0 Z = true) (w5 : (Jvm.Cond.declares y).before a0 Z = true) (w6 : (Jvm.Cond.selects C y y).before a0 Z = true) (w2 : (Jvm.Cond.instanceMethod y).before a0 Z = true) (w3 : (Jvm.Cond.initialized y.cls).before a0 Z = true) (w4 : (Jvm.Cond.code y bytes mx ret).before a0 Z = true) (hy : y.cls ≠ "java/lang/invoke/MethodHandle" ∧ y.cls ≠ "java/lang/invoke/VarHandle")
    (eT : T.heap = h) {a : Addr} (E : Exa Z h a C) (argsL rest : List Value) (hM : own_C l Z y bytes mx ret [] rm (.ref a :: argsL).toArray h Qc) (W : Nat) (hf : rm.frames + 1 ≤ R.frames) (hlo : W + (mx + 11) + rm.locals ≤ R.locals) (hW : (rest.map fun v => v.category).sum ≤ W) (hc : cells + rm.cells ≤ R.cells) (hs : slots + rm.slots ≤ R.slots)
    {pc : Nat} {Ls : Array Slot} {S : List Value} (hsize : Ls.size = c.maxLocals) (hlen : ∀ sig, parseMethodDescriptor y.desc = some sig → argsL.length = sig.parameters.length) (hS : S = argsL.reverse ++ .ref a :: rest) (hd : decode c.code pc = .ok (.invokevirtual index, 3))
    (k : ∀ (T' : State) (v : Option Value) (L : List Loc), Stand p l e R s m args below meth c T' (locs ++ L) (cells + rm.cells) (slots + rm.slots) → Qc v T'.heap L → own_G p e below s Q kc ks T' (mkF m (pc + 3) Ls (v.toList ++ rest))) :
    own_G p e below s Q kc ks T (mkF m pc Ls S) := by
  obtain ⟨cq, kq, qa, qb, qc⟩ := isOf hZ eT E
  obtain ⟨v, _, ⟨T', L', k', n'⟩, -, X', ⟨L, hQ, q1, q2, q3⟩, st⟩ := X.virtualBack hx (y := y) (z := y) hown (mvT hZ w1) (mvT hZ w5) (notFace_of_selects (args := #[]) (mvT hZ w6)) (mvT hZ w6) (mvT hZ w2) hy (backOf (W := W) hM hZ w4 w3 hf hlo) qa qc (g := mkF m pc Ls S) rfl hsize (Steps.refl _) (argsL := argsL) (rest := rest) hlen hS (by show 2 * 0 + _ ≤ _; omega) hd (fun _ _ => ⟨rfl, eT, hc, hs⟩)
  dsimp only [Pt.U, Pt.locs, Pt.cells, Pt.slots] at X' q1 q2 q3 st hQ
  subst q1 q2 q3
  exact own_go _ (fun t kt => st.trans kt) (k T' v L X' hQ)
end OwnKit
theorem own_pd0 : parseMethodDescriptor "(JIII)J" = some ⟨[.long, .int, .int, .int], some .long⟩ := by decide +kernel
theorem own_pd1 : parseMethodDescriptor "(JII)J" = some ⟨[.long, .int, .int], some .long⟩ := by decide +kernel
theorem own_pd2 : parseMethodDescriptor "(JI)J" = some ⟨[.long, .int], some .long⟩ := by decide +kernel

def own_pk (a b c d e f g h : Nat) : Nat := 256 * (256 * (256 * (256 * (256 * (256 * (256 * h + g) + f) + e) + d) + c) + b) + a
theorem own_and8 {a b c d : Nat} (hb : b < 2 ^ 8) (hd : d < 2 ^ 8) : (2 ^ 8 * a + b) &&& (2 ^ 8 * c + d) = 2 ^ 8 * (a &&& c) + (b &&& d) := by
  have q : b &&& d < 2 ^ 8 := Nat.and_lt_two_pow _ hd
  apply Nat.eq_of_testBit_eq; intro i
  rw [Nat.testBit_and, Nat.testBit_two_pow_mul_add a hb, Nat.testBit_two_pow_mul_add c hd, Nat.testBit_two_pow_mul_add _ q]
  split <;> simp only [Nat.testBit_and]
theorem own_or8 {a b c d : Nat} (hb : b < 2 ^ 8) (hd : d < 2 ^ 8) : (2 ^ 8 * a + b) ||| (2 ^ 8 * c + d) = 2 ^ 8 * (a ||| c) + (b ||| d) := by
  have q : b ||| d < 2 ^ 8 := Nat.or_lt_two_pow hb hd
  apply Nat.eq_of_testBit_eq; intro i
  rw [Nat.testBit_or, Nat.testBit_two_pow_mul_add a hb, Nat.testBit_two_pow_mul_add c hd, Nat.testBit_two_pow_mul_add _ q]
  split <;> simp only [Nat.testBit_or]
theorem own_xor8 {a b c d : Nat} (hb : b < 2 ^ 8) (hd : d < 2 ^ 8) : (2 ^ 8 * a + b) ^^^ (2 ^ 8 * c + d) = 2 ^ 8 * (a ^^^ c) + (b ^^^ d) := by
  have q : b ^^^ d < 2 ^ 8 := Nat.xor_lt_two_pow hb hd
  apply Nat.eq_of_testBit_eq; intro i
  rw [Nat.testBit_xor, Nat.testBit_two_pow_mul_add a hb, Nat.testBit_two_pow_mul_add c hd, Nat.testBit_two_pow_mul_add _ q]
  split <;> simp only [Nat.testBit_xor]
theorem own_pk_and {a b c d e f g h a' b' c' d' e' f' g' h' : Nat} (h_a : a < 2 ^ 8) (h_a' : a' < 2 ^ 8) (h_b : b < 2 ^ 8) (h_b' : b' < 2 ^ 8) (h_c : c < 2 ^ 8) (h_c' : c' < 2 ^ 8) (h_d : d < 2 ^ 8) (h_d' : d' < 2 ^ 8) (h_e : e < 2 ^ 8) (h_e' : e' < 2 ^ 8) (h_f : f < 2 ^ 8) (h_f' : f' < 2 ^ 8) (h_g : g < 2 ^ 8) (h_g' : g' < 2 ^ 8) : own_pk a b c d e f g h &&& own_pk a' b' c' d' e' f' g' h' = own_pk (a &&& a') (b &&& b') (c &&& c') (d &&& d') (e &&& e') (f &&& f') (g &&& g') (h &&& h') := by
  unfold own_pk
  rw [own_and8 h_a h_a', own_and8 h_b h_b', own_and8 h_c h_c', own_and8 h_d h_d', own_and8 h_e h_e', own_and8 h_f h_f', own_and8 h_g h_g']
theorem own_pk_or {a b c d e f g h a' b' c' d' e' f' g' h' : Nat} (h_a : a < 2 ^ 8) (h_a' : a' < 2 ^ 8) (h_b : b < 2 ^ 8) (h_b' : b' < 2 ^ 8) (h_c : c < 2 ^ 8) (h_c' : c' < 2 ^ 8) (h_d : d < 2 ^ 8) (h_d' : d' < 2 ^ 8) (h_e : e < 2 ^ 8) (h_e' : e' < 2 ^ 8) (h_f : f < 2 ^ 8) (h_f' : f' < 2 ^ 8) (h_g : g < 2 ^ 8) (h_g' : g' < 2 ^ 8) : own_pk a b c d e f g h ||| own_pk a' b' c' d' e' f' g' h' = own_pk (a ||| a') (b ||| b') (c ||| c') (d ||| d') (e ||| e') (f ||| f') (g ||| g') (h ||| h') := by
  unfold own_pk
  rw [own_or8 h_a h_a', own_or8 h_b h_b', own_or8 h_c h_c', own_or8 h_d h_d', own_or8 h_e h_e', own_or8 h_f h_f', own_or8 h_g h_g']
theorem own_pk_xor {a b c d e f g h a' b' c' d' e' f' g' h' : Nat} (h_a : a < 2 ^ 8) (h_a' : a' < 2 ^ 8) (h_b : b < 2 ^ 8) (h_b' : b' < 2 ^ 8) (h_c : c < 2 ^ 8) (h_c' : c' < 2 ^ 8) (h_d : d < 2 ^ 8) (h_d' : d' < 2 ^ 8) (h_e : e < 2 ^ 8) (h_e' : e' < 2 ^ 8) (h_f : f < 2 ^ 8) (h_f' : f' < 2 ^ 8) (h_g : g < 2 ^ 8) (h_g' : g' < 2 ^ 8) : own_pk a b c d e f g h ^^^ own_pk a' b' c' d' e' f' g' h' = own_pk (a ^^^ a') (b ^^^ b') (c ^^^ c') (d ^^^ d') (e ^^^ e') (f ^^^ f') (g ^^^ g') (h ^^^ h') := by
  unfold own_pk
  rw [own_xor8 h_a h_a', own_xor8 h_b h_b', own_xor8 h_c h_c', own_xor8 h_d h_d', own_xor8 h_e h_e', own_xor8 h_f h_f', own_xor8 h_g h_g']

def own_f (x : Nat) : Nat := ((((x &&& 127) + 127) ||| x) ^^^ 255) &&& 128
theorem own_xor0 (x y : Nat) : x ^^^ y = 0 ↔ x = y := ⟨fun h => Nat.eq_of_testBit_eq fun i => by have := congrArg (fun z => z.testBit i) h; simpa using this, fun h => by subst h; exact Nat.xor_self _⟩
theorem own_f_eq (x y : Nat) (hx : x < 256) (hy : y < 256) : own_f (x ^^^ y) = if x = y then 128 else 0 := by
  have h : ∀ z : Fin 256, own_f z.val = if z.val = 0 then 128 else 0 := by decide +kernel
  have q : x ^^^ y < 2 ^ 8 := Nat.xor_lt_two_pow hx hy
  rw [h ⟨x ^^^ y, q⟩]
  simp only [own_xor0]
theorem own_of (W : Nat) (h : W < 2 ^ 64) : W = own_pk (W % 256) (W / 256 % 256) (W / 65536 % 256) (W / 16777216 % 256) (W / 4294967296 % 256) (W / 1099511627776 % 256) (W / 281474976710656 % 256) (W / 72057594037927936 % 256) := by
  unfold own_pk; omega
theorem own_swar (W b : Nat) (hW : W < 2 ^ 64) (hb : b < 256) :
    (((((W ^^^ (72340172838076673 * b)) &&& 9187201950435737471) + 9187201950435737471) ||| (W ^^^ (72340172838076673 * b))) ^^^ 18446744073709551615) &&& 9259542123273814144 =
    own_pk (if W % 256 = b then 128 else 0) (if W / 256 % 256 = b then 128 else 0) (if W / 65536 % 256 = b then 128 else 0) (if W / 16777216 % 256 = b then 128 else 0) (if W / 4294967296 % 256 = b then 128 else 0) (if W / 1099511627776 % 256 = b then 128 else 0) (if W / 281474976710656 % 256 = b then 128 else 0) (if W / 72057594037927936 % 256 = b then 128 else 0) := by
  have e := own_of W hW
  have l0 : W % 256 < 2 ^ 8 := Nat.mod_lt _ (by decide)
  have l1 : W / 256 % 256 < 2 ^ 8 := Nat.mod_lt _ (by decide)
  have l2 : W / 65536 % 256 < 2 ^ 8 := Nat.mod_lt _ (by decide)
  have l3 : W / 16777216 % 256 < 2 ^ 8 := Nat.mod_lt _ (by decide)
  have l4 : W / 4294967296 % 256 < 2 ^ 8 := Nat.mod_lt _ (by decide)
  have l5 : W / 1099511627776 % 256 < 2 ^ 8 := Nat.mod_lt _ (by decide)
  have l6 : W / 281474976710656 % 256 < 2 ^ 8 := Nat.mod_lt _ (by decide)
  have l7 : W / 72057594037927936 % 256 < 2 ^ 8 := Nat.mod_lt _ (by decide)
  generalize W % 256 = w0 at *
  generalize W / 256 % 256 = w1 at *
  generalize W / 65536 % 256 = w2 at *
  generalize W / 16777216 % 256 = w3 at *
  generalize W / 4294967296 % 256 = w4 at *
  generalize W / 1099511627776 % 256 = w5 at *
  generalize W / 281474976710656 % 256 = w6 at *
  generalize W / 72057594037927936 % 256 = w7 at *
  have hb8 : b < 2 ^ 8 := hb
  have kb : 72340172838076673 * b = own_pk b b b b b b b b := by unfold own_pk; omega
  have k7 : (9187201950435737471 : Nat) = own_pk 127 127 127 127 127 127 127 127 := by decide
  have kf : (18446744073709551615 : Nat) = own_pk 255 255 255 255 255 255 255 255 := by decide
  have k8 : (9259542123273814144 : Nat) = own_pk 128 128 128 128 128 128 128 128 := by decide
  have x0 : w0 ^^^ b < 2 ^ 8 := Nat.xor_lt_two_pow l0 hb8
  have x1 : w1 ^^^ b < 2 ^ 8 := Nat.xor_lt_two_pow l1 hb8
  have x2 : w2 ^^^ b < 2 ^ 8 := Nat.xor_lt_two_pow l2 hb8
  have x3 : w3 ^^^ b < 2 ^ 8 := Nat.xor_lt_two_pow l3 hb8
  have x4 : w4 ^^^ b < 2 ^ 8 := Nat.xor_lt_two_pow l4 hb8
  have x5 : w5 ^^^ b < 2 ^ 8 := Nat.xor_lt_two_pow l5 hb8
  have x6 : w6 ^^^ b < 2 ^ 8 := Nat.xor_lt_two_pow l6 hb8
  have x7 : w7 ^^^ b < 2 ^ 8 := Nat.xor_lt_two_pow l7 hb8
  rw [kb, k8, kf, e, own_pk_xor l0 hb8 l1 hb8 l2 hb8 l3 hb8 l4 hb8 l5 hb8 l6 hb8]
  have m127 : ∀ y, y &&& 127 < 2 ^ 7 := fun y => Nat.and_lt_two_pow y (by decide)
  have hs : (own_pk (w0 ^^^ b) (w1 ^^^ b) (w2 ^^^ b) (w3 ^^^ b) (w4 ^^^ b) (w5 ^^^ b) (w6 ^^^ b) (w7 ^^^ b) &&& 9187201950435737471) + 9187201950435737471 = own_pk (((w0 ^^^ b) &&& 127) + 127) (((w1 ^^^ b) &&& 127) + 127) (((w2 ^^^ b) &&& 127) + 127) (((w3 ^^^ b) &&& 127) + 127) (((w4 ^^^ b) &&& 127) + 127) (((w5 ^^^ b) &&& 127) + 127) (((w6 ^^^ b) &&& 127) + 127) (((w7 ^^^ b) &&& 127) + 127) := by
    rw [k7, own_pk_and x0 (by decide) x1 (by decide) x2 (by decide) x3 (by decide) x4 (by decide) x5 (by decide) x6 (by decide)]
    unfold own_pk; omega
  rw [hs]
  have s0 : ((w0 ^^^ b) &&& 127) + 127 < 2 ^ 8 := by have := m127 (w0 ^^^ b); omega
  have s1 : ((w1 ^^^ b) &&& 127) + 127 < 2 ^ 8 := by have := m127 (w1 ^^^ b); omega
  have s2 : ((w2 ^^^ b) &&& 127) + 127 < 2 ^ 8 := by have := m127 (w2 ^^^ b); omega
  have s3 : ((w3 ^^^ b) &&& 127) + 127 < 2 ^ 8 := by have := m127 (w3 ^^^ b); omega
  have s4 : ((w4 ^^^ b) &&& 127) + 127 < 2 ^ 8 := by have := m127 (w4 ^^^ b); omega
  have s5 : ((w5 ^^^ b) &&& 127) + 127 < 2 ^ 8 := by have := m127 (w5 ^^^ b); omega
  have s6 : ((w6 ^^^ b) &&& 127) + 127 < 2 ^ 8 := by have := m127 (w6 ^^^ b); omega
  rw [own_pk_or s0 x0 s1 x1 s2 x2 s3 x3 s4 x4 s5 x5 s6 x6]
  rw [own_pk_xor (Nat.or_lt_two_pow s0 x0) (by decide) (Nat.or_lt_two_pow s1 x1) (by decide) (Nat.or_lt_two_pow s2 x2) (by decide) (Nat.or_lt_two_pow s3 x3) (by decide) (Nat.or_lt_two_pow s4 x4) (by decide) (Nat.or_lt_two_pow s5 x5) (by decide) (Nat.or_lt_two_pow s6 x6) (by decide)]
  rw [own_pk_and (Nat.xor_lt_two_pow (Nat.or_lt_two_pow s0 x0) (by decide)) (by decide) (Nat.xor_lt_two_pow (Nat.or_lt_two_pow s1 x1) (by decide)) (by decide) (Nat.xor_lt_two_pow (Nat.or_lt_two_pow s2 x2) (by decide)) (by decide) (Nat.xor_lt_two_pow (Nat.or_lt_two_pow s3 x3) (by decide)) (by decide) (Nat.xor_lt_two_pow (Nat.or_lt_two_pow s4 x4) (by decide)) (by decide) (Nat.xor_lt_two_pow (Nat.or_lt_two_pow s5 x5) (by decide)) (by decide) (Nat.xor_lt_two_pow (Nat.or_lt_two_pow s6 x6) (by decide)) (by decide)]
  have g0 := own_f_eq w0 b l0 hb
  have g1 := own_f_eq w1 b l1 hb
  have g2 := own_f_eq w2 b l2 hb
  have g3 := own_f_eq w3 b l3 hb
  have g4 := own_f_eq w4 b l4 hb
  have g5 := own_f_eq w5 b l5 hb
  have g6 := own_f_eq w6 b l6 hb
  have g7 := own_f_eq w7 b l7 hb
  unfold own_f at g0 g1 g2 g3 g4 g5 g6 g7
  rw [g0, g1, g2, g3, g4, g5, g6, g7]

def own_put (w : Int64) (i : Int32) (b : Int32) (sl : Int32) : Int64 := (if (((sl.toUInt32 >>> (i &&& 31).toUInt32).toInt32) &&& (1 : Int32)) = (0 : Int32) then w else ((w &&& (((255 : Int64) <<< (((8 : Int32) * i) &&& 0x3f).toInt64) ^^^ (-1 : Int64))) ||| ((b.toInt64) <<< (((8 : Int32) * i) &&& 0x3f).toInt64)))
theorem own_d1_0 : decode method_3_code 0 = .ok (.iload 4, 2) := by decide +kernel
theorem own_d1_2 : decode method_3_code 2 = .ok (.iload_n 2, 1) := by decide +kernel
theorem own_d1_3 : decode method_3_code 3 = .ok (.iushr, 1) := by decide +kernel
theorem own_d1_4 : decode method_3_code 4 = .ok (.iconst 1, 1) := by decide +kernel
theorem own_d1_5 : decode method_3_code 5 = .ok (.iand, 1) := by decide +kernel
theorem own_d1_6 : decode method_3_code 6 = .ok (.ifCond .ne 5, 3) := by decide +kernel
theorem own_d1_9 : decode method_3_code 9 = .ok (.lload_n 0, 1) := by decide +kernel
theorem own_d1_10 : decode method_3_code 10 = .ok (.lreturn, 1) := by decide +kernel
theorem own_d1_11 : decode method_3_code 11 = .ok (.bipush 8, 2) := by decide +kernel
theorem own_d1_13 : decode method_3_code 13 = .ok (.iload_n 2, 1) := by decide +kernel
theorem own_d1_14 : decode method_3_code 14 = .ok (.imul, 1) := by decide +kernel
theorem own_d1_15 : decode method_3_code 15 = .ok (.istore 5, 2) := by decide +kernel
theorem own_d1_17 : decode method_3_code 17 = .ok (.lload_n 0, 1) := by decide +kernel
theorem own_d1_18 : decode method_3_code 18 = .ok (.ldc2_w 23, 3) := by decide +kernel
theorem own_d1_21 : decode method_3_code 21 = .ok (.iload 5, 2) := by decide +kernel
theorem own_d1_23 : decode method_3_code 23 = .ok (.lshl, 1) := by decide +kernel
theorem own_d1_24 : decode method_3_code 24 = .ok (.ldc2_w 25, 3) := by decide +kernel
theorem own_d1_27 : decode method_3_code 27 = .ok (.lxor, 1) := by decide +kernel
theorem own_d1_28 : decode method_3_code 28 = .ok (.land, 1) := by decide +kernel
theorem own_d1_29 : decode method_3_code 29 = .ok (.iload_n 3, 1) := by decide +kernel
theorem own_d1_30 : decode method_3_code 30 = .ok (.i2l, 1) := by decide +kernel
theorem own_d1_31 : decode method_3_code 31 = .ok (.iload 5, 2) := by decide +kernel
theorem own_d1_33 : decode method_3_code 33 = .ok (.lshl, 1) := by decide +kernel
theorem own_d1_34 : decode method_3_code 34 = .ok (.lor, 1) := by decide +kernel
theorem own_d1_35 : decode method_3_code 35 = .ok (.lreturn, 1) := by decide +kernel
theorem own_pn_own_rm1 : plainFor (⟨"org/formwright/ByteWordsEqualToPinLaw", "put", "(JIII)J"⟩ : MethodName) = true := plainFor_of_name (show plainName "org/formwright/ByteWordsEqualToPinLaw" = true by first | (simp [plainName, overriddenIn]; done) | decide +kernel)
set_option maxRecDepth 65536 in
set_option maxHeartbeats 40000000 in
theorem own_rm1 (l : Launch) (Z : State) (a0 : Array Value) (hw : ∀ d ∈ tables_1, d.before a0 Z = true) (ws : List Jvm.Cond) (h0 : Heap) (w : Int64) (i b sl : Int32)  :
    own_C l Z (⟨"org/formwright/ByteWordsEqualToPinLaw", "put", "(JIII)J"⟩ : MethodName) method_3_code 6 (some .long) ws ({ frames := 0, cells := 0, slots := 0, locals := 0 } : Room) #[(.long w), (.int i), (.int b), (.int sl)] h0 (own_P (.long (own_put w i b sl)) h0) := by
  refine own_met own_pn_own_rm1 #[jv w, .second, iv i, iv b, iv sl, .unset] (fun m => by first | (simp [entryFrame, mkF, argsToLocals, Value.category]; done) | rfl) ?_
  intro p e s m below meth c s₁ hx hby hml hown hret hlk hZ hnm X0 e0
  refine own_go (mkF m 2 #[jv w, .second, iv i, iv b, iv sl, .unset] [(.int sl)]) (fun t k => XS.iload X0.here hx rfl (hb hby own_d1_0) rfl  k) ?_
  refine own_go (mkF m 3 #[jv w, .second, iv i, iv b, iv sl, .unset] [(.int i), (.int sl)]) (fun t k => XS.iloadN X0.here hx rfl (hb hby own_d1_2) rfl  k) ?_
  refine own_go (mkF m 4 #[jv w, .second, iv i, iv b, iv sl, .unset] [(.int ((sl.toUInt32 >>> (i &&& 31).toUInt32).toInt32))]) (fun t k => XS.iushr X0.here hx rfl (hb hby own_d1_3) rfl k) ?_
  refine own_go (mkF m 5 #[jv w, .second, iv i, iv b, iv sl, .unset] [(.int (1 : Int32)), (.int ((sl.toUInt32 >>> (i &&& 31).toUInt32).toInt32))]) (fun t k => XS.iconst X0.here hx rfl (hb hby own_d1_4) k) ?_
  refine own_go (mkF m 6 #[jv w, .second, iv i, iv b, iv sl, .unset] [(.int (((sl.toUInt32 >>> (i &&& 31).toUInt32).toInt32) &&& (1 : Int32)))]) (fun t k => XS.iand X0.here hx rfl (hb hby own_d1_5) rfl k) ?_
  by_cases hc6 : (((sl.toUInt32 >>> (i &&& 31).toUInt32).toInt32) &&& (1 : Int32)) = (0 : Int32)
  · skip
    refine own_go (mkF m 9 #[jv w, .second, iv i, iv b, iv sl, .unset] []) (fun t k => XS.ifNo X0.here hx rfl (hb hby own_d1_6) rfl ((if0 _ _).trans (teq hc6).2) k) ?_
    refine own_go (mkF m 10 #[jv w, .second, iv i, iv b, iv sl, .unset] [(.long w)]) (fun t k => XS.lloadN X0.here hx rfl (hb hby own_d1_9) rfl  k) ?_
    refine own_retJ X0 hx hlk hret (hb hby own_d1_10) ?_ (by decide) (by decide)
    exact ⟨congrArg (fun z => some (Value.long z)) ((show (own_put w i b sl) = w from ((if_pos hc6).trans rfl)).trans (by rfl : w = w)).symm, e0, rfl⟩
  · skip
    refine own_go (mkF m 11 #[jv w, .second, iv i, iv b, iv sl, .unset] []) (fun t k => XS.ifYes X0.here hx rfl (pc0 := 6) (pc' := 11) rfl (hb hby own_d1_6) rfl ((if0 _ _).trans (feq hc6).2) (by decide) (by decide) k) ?_
    refine own_go (mkF m 13 #[jv w, .second, iv i, iv b, iv sl, .unset] [(.int (8 : Int32))]) (fun t k => XS.bipush X0.here hx rfl (hb hby own_d1_11) k) ?_
    refine own_go (mkF m 14 #[jv w, .second, iv i, iv b, iv sl, .unset] [(.int i), (.int (8 : Int32))]) (fun t k => XS.iloadN X0.here hx rfl (hb hby own_d1_13) rfl  k) ?_
    refine own_go (mkF m 15 #[jv w, .second, iv i, iv b, iv sl, .unset] [(.int ((8 : Int32) * i))]) (fun t k => XS.imul X0.here hx rfl (hb hby own_d1_14) rfl k) ?_
    refine own_go (mkF m 17 #[jv w, .second, iv i, iv b, iv sl, iv ((8 : Int32) * i)] []) (fun t k => XS.istore X0.here hx rfl (hb hby own_d1_15) rfl (l' := #[jv w, .second, iv i, iv b, iv sl, iv ((8 : Int32) * i)]) rfl k) ?_
    refine own_go (mkF m 18 #[jv w, .second, iv i, iv b, iv sl, iv ((8 : Int32) * i)] [(.long w)]) (fun t k => XS.lloadN X0.here hx rfl (hb hby own_d1_17) rfl  k) ?_
    refine own_go (mkF m 21 #[jv w, .second, iv i, iv b, iv sl, iv ((8 : Int32) * i)] [(.long (255 : Int64)), (.long w)]) (fun t k => X0.ldc2Long hx hown (mvT hZ (hw _ (List.mem_of_getElem? (i := 4) rfl))) (g := (mkF m 18 #[jv w, .second, iv i, iv b, iv sl, iv ((8 : Int32) * i)] [(.long w)])) rfl (hb hby own_d1_18) _ k) ?_
    refine own_go (mkF m 23 #[jv w, .second, iv i, iv b, iv sl, iv ((8 : Int32) * i)] [(.int ((8 : Int32) * i)), (.long (255 : Int64)), (.long w)]) (fun t k => XS.iload X0.here hx rfl (hb hby own_d1_21) rfl  k) ?_
    refine own_go (mkF m 24 #[jv w, .second, iv i, iv b, iv sl, iv ((8 : Int32) * i)] [(.long ((255 : Int64) <<< (((8 : Int32) * i) &&& 0x3f).toInt64)), (.long w)]) (fun t k => XS.lshl X0.here hx rfl (hb hby own_d1_23) rfl k) ?_
    refine own_go (mkF m 27 #[jv w, .second, iv i, iv b, iv sl, iv ((8 : Int32) * i)] [(.long (-1 : Int64)), (.long ((255 : Int64) <<< (((8 : Int32) * i) &&& 0x3f).toInt64)), (.long w)]) (fun t k => X0.ldc2Long hx hown (mvT hZ (hw _ (List.mem_of_getElem? (i := 5) rfl))) (g := (mkF m 24 #[jv w, .second, iv i, iv b, iv sl, iv ((8 : Int32) * i)] [(.long ((255 : Int64) <<< (((8 : Int32) * i) &&& 0x3f).toInt64)), (.long w)])) rfl (hb hby own_d1_24) _ k) ?_
    refine own_go (mkF m 28 #[jv w, .second, iv i, iv b, iv sl, iv ((8 : Int32) * i)] [(.long (((255 : Int64) <<< (((8 : Int32) * i) &&& 0x3f).toInt64) ^^^ (-1 : Int64))), (.long w)]) (fun t k => XS.lxor X0.here hx rfl (hb hby own_d1_27) rfl k) ?_
    refine own_go (mkF m 29 #[jv w, .second, iv i, iv b, iv sl, iv ((8 : Int32) * i)] [(.long (w &&& (((255 : Int64) <<< (((8 : Int32) * i) &&& 0x3f).toInt64) ^^^ (-1 : Int64))))]) (fun t k => XS.land X0.here hx rfl (hb hby own_d1_28) rfl k) ?_
    refine own_go (mkF m 30 #[jv w, .second, iv i, iv b, iv sl, iv ((8 : Int32) * i)] [(.int b), (.long (w &&& (((255 : Int64) <<< (((8 : Int32) * i) &&& 0x3f).toInt64) ^^^ (-1 : Int64))))]) (fun t k => XS.iloadN X0.here hx rfl (hb hby own_d1_29) rfl  k) ?_
    refine own_go (mkF m 31 #[jv w, .second, iv i, iv b, iv sl, iv ((8 : Int32) * i)] [(.long (b.toInt64)), (.long (w &&& (((255 : Int64) <<< (((8 : Int32) * i) &&& 0x3f).toInt64) ^^^ (-1 : Int64))))]) (fun t k => XS.i2l X0.here hx rfl (hb hby own_d1_30) rfl k) ?_
    refine own_go (mkF m 33 #[jv w, .second, iv i, iv b, iv sl, iv ((8 : Int32) * i)] [(.int ((8 : Int32) * i)), (.long (b.toInt64)), (.long (w &&& (((255 : Int64) <<< (((8 : Int32) * i) &&& 0x3f).toInt64) ^^^ (-1 : Int64))))]) (fun t k => XS.iload X0.here hx rfl (hb hby own_d1_31) rfl  k) ?_
    refine own_go (mkF m 34 #[jv w, .second, iv i, iv b, iv sl, iv ((8 : Int32) * i)] [(.long ((b.toInt64) <<< (((8 : Int32) * i) &&& 0x3f).toInt64)), (.long (w &&& (((255 : Int64) <<< (((8 : Int32) * i) &&& 0x3f).toInt64) ^^^ (-1 : Int64))))]) (fun t k => XS.lshl X0.here hx rfl (hb hby own_d1_33) rfl k) ?_
    refine own_go (mkF m 35 #[jv w, .second, iv i, iv b, iv sl, iv ((8 : Int32) * i)] [(.long ((w &&& (((255 : Int64) <<< (((8 : Int32) * i) &&& 0x3f).toInt64) ^^^ (-1 : Int64))) ||| ((b.toInt64) <<< (((8 : Int32) * i) &&& 0x3f).toInt64)))]) (fun t k => XS.lor X0.here hx rfl (hb hby own_d1_34) rfl k) ?_
    refine own_retJ X0 hx hlk hret (hb hby own_d1_35) ?_ (by decide) (by decide)
    exact ⟨congrArg (fun z => some (Value.long z)) ((show (own_put w i b sl) = ((w &&& (((255 : Int64) <<< (((8 : Int32) * i) &&& 0x3f).toInt64) ^^^ (-1 : Int64))) ||| ((b.toInt64) <<< (((8 : Int32) * i) &&& 0x3f).toInt64)) from ((if_neg hc6).trans rfl)).trans (by rfl : ((w &&& (((255 : Int64) <<< (((8 : Int32) * i) &&& 0x3f).toInt64) ^^^ (-1 : Int64))) ||| ((b.toInt64) <<< (((8 : Int32) * i) &&& 0x3f).toInt64)) = ((w &&& (((255 : Int64) <<< (((8 : Int32) * i) &&& 0x3f).toInt64) ^^^ (-1 : Int64))) ||| ((b.toInt64) <<< (((8 : Int32) * i) &&& 0x3f).toInt64)))).symm, e0, rfl⟩

def own_bit (w : Int64) (i : Int32) (b : Int32) : Int64 := (if (((w.toUInt64 >>> (((8 : Int32) * i) &&& 0x3f).toInt64.toUInt64).toInt64) &&& (255 : Int64)) = (b.toInt64) then ((128 : Int64) <<< (((8 : Int32) * i) &&& 0x3f).toInt64) else (0 : Int64))
theorem own_d2_0 : decode method_4_code 0 = .ok (.bipush 8, 2) := by decide +kernel
theorem own_d2_2 : decode method_4_code 2 = .ok (.iload_n 2, 1) := by decide +kernel
theorem own_d2_3 : decode method_4_code 3 = .ok (.imul, 1) := by decide +kernel
theorem own_d2_4 : decode method_4_code 4 = .ok (.istore 4, 2) := by decide +kernel
theorem own_d2_6 : decode method_4_code 6 = .ok (.lload_n 0, 1) := by decide +kernel
theorem own_d2_7 : decode method_4_code 7 = .ok (.iload 4, 2) := by decide +kernel
theorem own_d2_9 : decode method_4_code 9 = .ok (.lushr, 1) := by decide +kernel
theorem own_d2_10 : decode method_4_code 10 = .ok (.ldc2_w 23, 3) := by decide +kernel
theorem own_d2_13 : decode method_4_code 13 = .ok (.land, 1) := by decide +kernel
theorem own_d2_14 : decode method_4_code 14 = .ok (.iload_n 3, 1) := by decide +kernel
theorem own_d2_15 : decode method_4_code 15 = .ok (.i2l, 1) := by decide +kernel
theorem own_d2_16 : decode method_4_code 16 = .ok (.lcmp, 1) := by decide +kernel
theorem own_d2_17 : decode method_4_code 17 = .ok (.ifCond .ne 10, 3) := by decide +kernel
theorem own_d2_20 : decode method_4_code 20 = .ok (.ldc2_w 27, 3) := by decide +kernel
theorem own_d2_23 : decode method_4_code 23 = .ok (.iload 4, 2) := by decide +kernel
theorem own_d2_25 : decode method_4_code 25 = .ok (.lshl, 1) := by decide +kernel
theorem own_d2_26 : decode method_4_code 26 = .ok (.lreturn, 1) := by decide +kernel
theorem own_d2_27 : decode method_4_code 27 = .ok (.lconst 0, 1) := by decide +kernel
theorem own_d2_28 : decode method_4_code 28 = .ok (.lreturn, 1) := by decide +kernel
theorem own_pn_own_rm2 : plainFor (⟨"org/formwright/ByteWordsEqualToPinLaw", "bit", "(JII)J"⟩ : MethodName) = true := plainFor_of_name (show plainName "org/formwright/ByteWordsEqualToPinLaw" = true by first | (simp [plainName, overriddenIn]; done) | decide +kernel)
set_option maxRecDepth 65536 in
set_option maxHeartbeats 40000000 in
theorem own_rm2 (l : Launch) (Z : State) (a0 : Array Value) (hw : ∀ d ∈ tables_1, d.before a0 Z = true) (ws : List Jvm.Cond) (h0 : Heap) (w : Int64) (i b : Int32)  :
    own_C l Z (⟨"org/formwright/ByteWordsEqualToPinLaw", "bit", "(JII)J"⟩ : MethodName) method_4_code 5 (some .long) ws ({ frames := 0, cells := 0, slots := 0, locals := 0 } : Room) #[(.long w), (.int i), (.int b)] h0 (own_P (.long (own_bit w i b)) h0) := by
  refine own_met own_pn_own_rm2 #[jv w, .second, iv i, iv b, .unset] (fun m => by first | (simp [entryFrame, mkF, argsToLocals, Value.category]; done) | rfl) ?_
  intro p e s m below meth c s₁ hx hby hml hown hret hlk hZ hnm X0 e0
  refine own_go (mkF m 2 #[jv w, .second, iv i, iv b, .unset] [(.int (8 : Int32))]) (fun t k => XS.bipush X0.here hx rfl (hb hby own_d2_0) k) ?_
  refine own_go (mkF m 3 #[jv w, .second, iv i, iv b, .unset] [(.int i), (.int (8 : Int32))]) (fun t k => XS.iloadN X0.here hx rfl (hb hby own_d2_2) rfl  k) ?_
  refine own_go (mkF m 4 #[jv w, .second, iv i, iv b, .unset] [(.int ((8 : Int32) * i))]) (fun t k => XS.imul X0.here hx rfl (hb hby own_d2_3) rfl k) ?_
  refine own_go (mkF m 6 #[jv w, .second, iv i, iv b, iv ((8 : Int32) * i)] []) (fun t k => XS.istore X0.here hx rfl (hb hby own_d2_4) rfl (l' := #[jv w, .second, iv i, iv b, iv ((8 : Int32) * i)]) rfl k) ?_
  refine own_go (mkF m 7 #[jv w, .second, iv i, iv b, iv ((8 : Int32) * i)] [(.long w)]) (fun t k => XS.lloadN X0.here hx rfl (hb hby own_d2_6) rfl  k) ?_
  refine own_go (mkF m 9 #[jv w, .second, iv i, iv b, iv ((8 : Int32) * i)] [(.int ((8 : Int32) * i)), (.long w)]) (fun t k => XS.iload X0.here hx rfl (hb hby own_d2_7) rfl  k) ?_
  refine own_go (mkF m 10 #[jv w, .second, iv i, iv b, iv ((8 : Int32) * i)] [(.long ((w.toUInt64 >>> (((8 : Int32) * i) &&& 0x3f).toInt64.toUInt64).toInt64))]) (fun t k => XS.lushr X0.here hx rfl (hb hby own_d2_9) rfl k) ?_
  refine own_go (mkF m 13 #[jv w, .second, iv i, iv b, iv ((8 : Int32) * i)] [(.long (255 : Int64)), (.long ((w.toUInt64 >>> (((8 : Int32) * i) &&& 0x3f).toInt64.toUInt64).toInt64))]) (fun t k => X0.ldc2Long hx hown (mvT hZ (hw _ (List.mem_of_getElem? (i := 4) rfl))) (g := (mkF m 10 #[jv w, .second, iv i, iv b, iv ((8 : Int32) * i)] [(.long ((w.toUInt64 >>> (((8 : Int32) * i) &&& 0x3f).toInt64.toUInt64).toInt64))])) rfl (hb hby own_d2_10) _ k) ?_
  refine own_go (mkF m 14 #[jv w, .second, iv i, iv b, iv ((8 : Int32) * i)] [(.long (((w.toUInt64 >>> (((8 : Int32) * i) &&& 0x3f).toInt64.toUInt64).toInt64) &&& (255 : Int64)))]) (fun t k => XS.land X0.here hx rfl (hb hby own_d2_13) rfl k) ?_
  refine own_go (mkF m 15 #[jv w, .second, iv i, iv b, iv ((8 : Int32) * i)] [(.int b), (.long (((w.toUInt64 >>> (((8 : Int32) * i) &&& 0x3f).toInt64.toUInt64).toInt64) &&& (255 : Int64)))]) (fun t k => XS.iloadN X0.here hx rfl (hb hby own_d2_14) rfl  k) ?_
  refine own_go (mkF m 16 #[jv w, .second, iv i, iv b, iv ((8 : Int32) * i)] [(.long (b.toInt64)), (.long (((w.toUInt64 >>> (((8 : Int32) * i) &&& 0x3f).toInt64.toUInt64).toInt64) &&& (255 : Int64)))]) (fun t k => XS.i2l X0.here hx rfl (hb hby own_d2_15) rfl k) ?_
  refine own_go (mkF m 17 #[jv w, .second, iv i, iv b, iv ((8 : Int32) * i)] [(.int (lcmpW (((w.toUInt64 >>> (((8 : Int32) * i) &&& 0x3f).toInt64.toUInt64).toInt64) &&& (255 : Int64)) (b.toInt64)))]) (fun t k => XS.lcmp X0.here hx rfl (hb hby own_d2_16) rfl k) ?_
  by_cases hc17 : (((w.toUInt64 >>> (((8 : Int32) * i) &&& 0x3f).toInt64.toUInt64).toInt64) &&& (255 : Int64)) = (b.toInt64)
  · skip
    refine own_go (mkF m 20 #[jv w, .second, iv i, iv b, iv ((8 : Int32) * i)] []) (fun t k => XS.ifNo X0.here hx rfl (hb hby own_d2_17) rfl ((if0 _ _).trans (teq ((lw_eq (((w.toUInt64 >>> (((8 : Int32) * i) &&& 0x3f).toInt64.toUInt64).toInt64) &&& (255 : Int64)) (b.toInt64)).mpr hc17)).2) k) ?_
    refine own_go (mkF m 23 #[jv w, .second, iv i, iv b, iv ((8 : Int32) * i)] [(.long (128 : Int64))]) (fun t k => X0.ldc2Long hx hown (mvT hZ (hw _ (List.mem_of_getElem? (i := 9) rfl))) (g := (mkF m 20 #[jv w, .second, iv i, iv b, iv ((8 : Int32) * i)] [])) rfl (hb hby own_d2_20) _ k) ?_
    refine own_go (mkF m 25 #[jv w, .second, iv i, iv b, iv ((8 : Int32) * i)] [(.int ((8 : Int32) * i)), (.long (128 : Int64))]) (fun t k => XS.iload X0.here hx rfl (hb hby own_d2_23) rfl  k) ?_
    refine own_go (mkF m 26 #[jv w, .second, iv i, iv b, iv ((8 : Int32) * i)] [(.long ((128 : Int64) <<< (((8 : Int32) * i) &&& 0x3f).toInt64))]) (fun t k => XS.lshl X0.here hx rfl (hb hby own_d2_25) rfl k) ?_
    refine own_retJ X0 hx hlk hret (hb hby own_d2_26) ?_ (by decide) (by decide)
    exact ⟨congrArg (fun z => some (Value.long z)) ((show (own_bit w i b) = ((128 : Int64) <<< (((8 : Int32) * i) &&& 0x3f).toInt64) from ((if_pos hc17).trans rfl)).trans (by rfl : ((128 : Int64) <<< (((8 : Int32) * i) &&& 0x3f).toInt64) = ((128 : Int64) <<< (((8 : Int32) * i) &&& 0x3f).toInt64))).symm, e0, rfl⟩
  · skip
    refine own_go (mkF m 27 #[jv w, .second, iv i, iv b, iv ((8 : Int32) * i)] []) (fun t k => XS.ifYes X0.here hx rfl (pc0 := 17) (pc' := 27) rfl (hb hby own_d2_17) rfl ((if0 _ _).trans (feq (fun q => hc17 ((lw_eq (((w.toUInt64 >>> (((8 : Int32) * i) &&& 0x3f).toInt64.toUInt64).toInt64) &&& (255 : Int64)) (b.toInt64)).mp q))).2) (by decide) (by decide) k) ?_
    refine own_go (mkF m 28 #[jv w, .second, iv i, iv b, iv ((8 : Int32) * i)] [(.long (0 : Int64))]) (fun t k => XS.lconst X0.here hx rfl (hb hby own_d2_27) k) ?_
    refine own_retJ X0 hx hlk hret (hb hby own_d2_28) ?_ (by decide) (by decide)
    exact ⟨congrArg (fun z => some (Value.long z)) ((show (own_bit w i b) = (0 : Int64) from ((if_neg hc17).trans rfl)).trans (by rfl : (0 : Int64) = (0 : Int64))).symm, e0, rfl⟩

def own_equal (w : Int64) (b : Int32) : Int64 := ((((((w ^^^ ((72340172838076673 : Int64) * (b.toInt64))) &&& (9187201950435737471 : Int64)) + (9187201950435737471 : Int64)) ||| (w ^^^ ((72340172838076673 : Int64) * (b.toInt64)))) ^^^ (-1 : Int64)) &&& (-9187201950435737472 : Int64))
theorem own_d3_0 : decode prog_4_method_3_code 0 = .ok (.lload_n 0, 1) := by decide +kernel
theorem own_d3_1 : decode prog_4_method_3_code 1 = .ok (.ldc2_w 21, 3) := by decide +kernel
theorem own_d3_4 : decode prog_4_method_3_code 4 = .ok (.iload_n 2, 1) := by decide +kernel
theorem own_d3_5 : decode prog_4_method_3_code 5 = .ok (.i2l, 1) := by decide +kernel
theorem own_d3_6 : decode prog_4_method_3_code 6 = .ok (.lmul, 1) := by decide +kernel
theorem own_d3_7 : decode prog_4_method_3_code 7 = .ok (.lxor, 1) := by decide +kernel
theorem own_d3_8 : decode prog_4_method_3_code 8 = .ok (.lstore_n 3, 1) := by decide +kernel
theorem own_d3_9 : decode prog_4_method_3_code 9 = .ok (.lload_n 3, 1) := by decide +kernel
theorem own_d3_10 : decode prog_4_method_3_code 10 = .ok (.ldc2_w 23, 3) := by decide +kernel
theorem own_d3_13 : decode prog_4_method_3_code 13 = .ok (.land, 1) := by decide +kernel
theorem own_d3_14 : decode prog_4_method_3_code 14 = .ok (.ldc2_w 23, 3) := by decide +kernel
theorem own_d3_17 : decode prog_4_method_3_code 17 = .ok (.ladd, 1) := by decide +kernel
theorem own_d3_18 : decode prog_4_method_3_code 18 = .ok (.lload_n 3, 1) := by decide +kernel
theorem own_d3_19 : decode prog_4_method_3_code 19 = .ok (.lor, 1) := by decide +kernel
theorem own_d3_20 : decode prog_4_method_3_code 20 = .ok (.lstore 5, 2) := by decide +kernel
theorem own_d3_22 : decode prog_4_method_3_code 22 = .ok (.lload 5, 2) := by decide +kernel
theorem own_d3_24 : decode prog_4_method_3_code 24 = .ok (.ldc2_w 25, 3) := by decide +kernel
theorem own_d3_27 : decode prog_4_method_3_code 27 = .ok (.lxor, 1) := by decide +kernel
theorem own_d3_28 : decode prog_4_method_3_code 28 = .ok (.ldc2_w 27, 3) := by decide +kernel
theorem own_d3_31 : decode prog_4_method_3_code 31 = .ok (.land, 1) := by decide +kernel
theorem own_d3_32 : decode prog_4_method_3_code 32 = .ok (.lreturn, 1) := by decide +kernel
theorem own_pn_own_rm3 : plainFor (⟨"org/formwright/ByteWords", "equalTo", "(JI)J"⟩ : MethodName) = true := plainFor_of_name (show plainName "org/formwright/ByteWords" = true by first | (simp [plainName, overriddenIn]; done) | decide +kernel)
set_option maxRecDepth 65536 in
set_option maxHeartbeats 40000000 in
theorem own_rm3 (l : Launch) (Z : State) (a0 : Array Value) (hw : ∀ d ∈ tables_1, d.before a0 Z = true) (ws : List Jvm.Cond) (h0 : Heap) (w : Int64) (b : Int32)  :
    own_C l Z (⟨"org/formwright/ByteWords", "equalTo", "(JI)J"⟩ : MethodName) prog_4_method_3_code 7 (some .long) ws ({ frames := 0, cells := 0, slots := 0, locals := 0 } : Room) #[(.long w), (.int b)] h0 (own_P (.long (own_equal w b)) h0) := by
  refine own_met own_pn_own_rm3 #[jv w, .second, iv b, .unset, .unset, .unset, .unset] (fun m => by first | (simp [entryFrame, mkF, argsToLocals, Value.category]; done) | rfl) ?_
  intro p e s m below meth c s₁ hx hby hml hown hret hlk hZ hnm X0 e0
  refine own_go (mkF m 1 #[jv w, .second, iv b, .unset, .unset, .unset, .unset] [(.long w)]) (fun t k => XS.lloadN X0.here hx rfl (hb hby own_d3_0) rfl  k) ?_
  refine own_go (mkF m 4 #[jv w, .second, iv b, .unset, .unset, .unset, .unset] [(.long (72340172838076673 : Int64)), (.long w)]) (fun t k => X0.ldc2Long hx hown (mvT hZ (hw _ (List.mem_of_getElem? (i := 14) rfl))) (g := (mkF m 1 #[jv w, .second, iv b, .unset, .unset, .unset, .unset] [(.long w)])) rfl (hb hby own_d3_1) _ k) ?_
  refine own_go (mkF m 5 #[jv w, .second, iv b, .unset, .unset, .unset, .unset] [(.int b), (.long (72340172838076673 : Int64)), (.long w)]) (fun t k => XS.iloadN X0.here hx rfl (hb hby own_d3_4) rfl  k) ?_
  refine own_go (mkF m 6 #[jv w, .second, iv b, .unset, .unset, .unset, .unset] [(.long (b.toInt64)), (.long (72340172838076673 : Int64)), (.long w)]) (fun t k => XS.i2l X0.here hx rfl (hb hby own_d3_5) rfl k) ?_
  refine own_go (mkF m 7 #[jv w, .second, iv b, .unset, .unset, .unset, .unset] [(.long ((72340172838076673 : Int64) * (b.toInt64))), (.long w)]) (fun t k => XS.lmul X0.here hx rfl (hb hby own_d3_6) rfl k) ?_
  refine own_go (mkF m 8 #[jv w, .second, iv b, .unset, .unset, .unset, .unset] [(.long (w ^^^ ((72340172838076673 : Int64) * (b.toInt64))))]) (fun t k => XS.lxor X0.here hx rfl (hb hby own_d3_7) rfl k) ?_
  refine own_go (mkF m 9 #[jv w, .second, iv b, jv (w ^^^ ((72340172838076673 : Int64) * (b.toInt64))), .second, .unset, .unset] []) (fun t k => XS.lstoreN X0.here hx rfl (hb hby own_d3_8) rfl (l' := #[jv w, .second, iv b, jv (w ^^^ ((72340172838076673 : Int64) * (b.toInt64))), .second, .unset, .unset]) rfl k) ?_
  refine own_go (mkF m 10 #[jv w, .second, iv b, jv (w ^^^ ((72340172838076673 : Int64) * (b.toInt64))), .second, .unset, .unset] [(.long (w ^^^ ((72340172838076673 : Int64) * (b.toInt64))))]) (fun t k => XS.lloadN X0.here hx rfl (hb hby own_d3_9) rfl  k) ?_
  refine own_go (mkF m 13 #[jv w, .second, iv b, jv (w ^^^ ((72340172838076673 : Int64) * (b.toInt64))), .second, .unset, .unset] [(.long (9187201950435737471 : Int64)), (.long (w ^^^ ((72340172838076673 : Int64) * (b.toInt64))))]) (fun t k => X0.ldc2Long hx hown (mvT hZ (hw _ (List.mem_of_getElem? (i := 15) rfl))) (g := (mkF m 10 #[jv w, .second, iv b, jv (w ^^^ ((72340172838076673 : Int64) * (b.toInt64))), .second, .unset, .unset] [(.long (w ^^^ ((72340172838076673 : Int64) * (b.toInt64))))])) rfl (hb hby own_d3_10) _ k) ?_
  refine own_go (mkF m 14 #[jv w, .second, iv b, jv (w ^^^ ((72340172838076673 : Int64) * (b.toInt64))), .second, .unset, .unset] [(.long ((w ^^^ ((72340172838076673 : Int64) * (b.toInt64))) &&& (9187201950435737471 : Int64)))]) (fun t k => XS.land X0.here hx rfl (hb hby own_d3_13) rfl k) ?_
  refine own_go (mkF m 17 #[jv w, .second, iv b, jv (w ^^^ ((72340172838076673 : Int64) * (b.toInt64))), .second, .unset, .unset] [(.long (9187201950435737471 : Int64)), (.long ((w ^^^ ((72340172838076673 : Int64) * (b.toInt64))) &&& (9187201950435737471 : Int64)))]) (fun t k => X0.ldc2Long hx hown (mvT hZ (hw _ (List.mem_of_getElem? (i := 15) rfl))) (g := (mkF m 14 #[jv w, .second, iv b, jv (w ^^^ ((72340172838076673 : Int64) * (b.toInt64))), .second, .unset, .unset] [(.long ((w ^^^ ((72340172838076673 : Int64) * (b.toInt64))) &&& (9187201950435737471 : Int64)))])) rfl (hb hby own_d3_14) _ k) ?_
  refine own_go (mkF m 18 #[jv w, .second, iv b, jv (w ^^^ ((72340172838076673 : Int64) * (b.toInt64))), .second, .unset, .unset] [(.long (((w ^^^ ((72340172838076673 : Int64) * (b.toInt64))) &&& (9187201950435737471 : Int64)) + (9187201950435737471 : Int64)))]) (fun t k => XS.ladd X0.here hx rfl (hb hby own_d3_17) rfl k) ?_
  refine own_go (mkF m 19 #[jv w, .second, iv b, jv (w ^^^ ((72340172838076673 : Int64) * (b.toInt64))), .second, .unset, .unset] [(.long (w ^^^ ((72340172838076673 : Int64) * (b.toInt64)))), (.long (((w ^^^ ((72340172838076673 : Int64) * (b.toInt64))) &&& (9187201950435737471 : Int64)) + (9187201950435737471 : Int64)))]) (fun t k => XS.lloadN X0.here hx rfl (hb hby own_d3_18) rfl  k) ?_
  refine own_go (mkF m 20 #[jv w, .second, iv b, jv (w ^^^ ((72340172838076673 : Int64) * (b.toInt64))), .second, .unset, .unset] [(.long ((((w ^^^ ((72340172838076673 : Int64) * (b.toInt64))) &&& (9187201950435737471 : Int64)) + (9187201950435737471 : Int64)) ||| (w ^^^ ((72340172838076673 : Int64) * (b.toInt64)))))]) (fun t k => XS.lor X0.here hx rfl (hb hby own_d3_19) rfl k) ?_
  refine own_go (mkF m 22 #[jv w, .second, iv b, jv (w ^^^ ((72340172838076673 : Int64) * (b.toInt64))), .second, jv ((((w ^^^ ((72340172838076673 : Int64) * (b.toInt64))) &&& (9187201950435737471 : Int64)) + (9187201950435737471 : Int64)) ||| (w ^^^ ((72340172838076673 : Int64) * (b.toInt64)))), .second] []) (fun t k => XS.lstore X0.here hx rfl (hb hby own_d3_20) rfl (l' := #[jv w, .second, iv b, jv (w ^^^ ((72340172838076673 : Int64) * (b.toInt64))), .second, jv ((((w ^^^ ((72340172838076673 : Int64) * (b.toInt64))) &&& (9187201950435737471 : Int64)) + (9187201950435737471 : Int64)) ||| (w ^^^ ((72340172838076673 : Int64) * (b.toInt64)))), .second]) rfl k) ?_
  refine own_go (mkF m 24 #[jv w, .second, iv b, jv (w ^^^ ((72340172838076673 : Int64) * (b.toInt64))), .second, jv ((((w ^^^ ((72340172838076673 : Int64) * (b.toInt64))) &&& (9187201950435737471 : Int64)) + (9187201950435737471 : Int64)) ||| (w ^^^ ((72340172838076673 : Int64) * (b.toInt64)))), .second] [(.long ((((w ^^^ ((72340172838076673 : Int64) * (b.toInt64))) &&& (9187201950435737471 : Int64)) + (9187201950435737471 : Int64)) ||| (w ^^^ ((72340172838076673 : Int64) * (b.toInt64)))))]) (fun t k => XS.lload X0.here hx rfl (hb hby own_d3_22) rfl  k) ?_
  refine own_go (mkF m 27 #[jv w, .second, iv b, jv (w ^^^ ((72340172838076673 : Int64) * (b.toInt64))), .second, jv ((((w ^^^ ((72340172838076673 : Int64) * (b.toInt64))) &&& (9187201950435737471 : Int64)) + (9187201950435737471 : Int64)) ||| (w ^^^ ((72340172838076673 : Int64) * (b.toInt64)))), .second] [(.long (-1 : Int64)), (.long ((((w ^^^ ((72340172838076673 : Int64) * (b.toInt64))) &&& (9187201950435737471 : Int64)) + (9187201950435737471 : Int64)) ||| (w ^^^ ((72340172838076673 : Int64) * (b.toInt64)))))]) (fun t k => X0.ldc2Long hx hown (mvT hZ (hw _ (List.mem_of_getElem? (i := 16) rfl))) (g := (mkF m 24 #[jv w, .second, iv b, jv (w ^^^ ((72340172838076673 : Int64) * (b.toInt64))), .second, jv ((((w ^^^ ((72340172838076673 : Int64) * (b.toInt64))) &&& (9187201950435737471 : Int64)) + (9187201950435737471 : Int64)) ||| (w ^^^ ((72340172838076673 : Int64) * (b.toInt64)))), .second] [(.long ((((w ^^^ ((72340172838076673 : Int64) * (b.toInt64))) &&& (9187201950435737471 : Int64)) + (9187201950435737471 : Int64)) ||| (w ^^^ ((72340172838076673 : Int64) * (b.toInt64)))))])) rfl (hb hby own_d3_24) _ k) ?_
  refine own_go (mkF m 28 #[jv w, .second, iv b, jv (w ^^^ ((72340172838076673 : Int64) * (b.toInt64))), .second, jv ((((w ^^^ ((72340172838076673 : Int64) * (b.toInt64))) &&& (9187201950435737471 : Int64)) + (9187201950435737471 : Int64)) ||| (w ^^^ ((72340172838076673 : Int64) * (b.toInt64)))), .second] [(.long (((((w ^^^ ((72340172838076673 : Int64) * (b.toInt64))) &&& (9187201950435737471 : Int64)) + (9187201950435737471 : Int64)) ||| (w ^^^ ((72340172838076673 : Int64) * (b.toInt64)))) ^^^ (-1 : Int64)))]) (fun t k => XS.lxor X0.here hx rfl (hb hby own_d3_27) rfl k) ?_
  refine own_go (mkF m 31 #[jv w, .second, iv b, jv (w ^^^ ((72340172838076673 : Int64) * (b.toInt64))), .second, jv ((((w ^^^ ((72340172838076673 : Int64) * (b.toInt64))) &&& (9187201950435737471 : Int64)) + (9187201950435737471 : Int64)) ||| (w ^^^ ((72340172838076673 : Int64) * (b.toInt64)))), .second] [(.long (-9187201950435737472 : Int64)), (.long (((((w ^^^ ((72340172838076673 : Int64) * (b.toInt64))) &&& (9187201950435737471 : Int64)) + (9187201950435737471 : Int64)) ||| (w ^^^ ((72340172838076673 : Int64) * (b.toInt64)))) ^^^ (-1 : Int64)))]) (fun t k => X0.ldc2Long hx hown (mvT hZ (hw _ (List.mem_of_getElem? (i := 17) rfl))) (g := (mkF m 28 #[jv w, .second, iv b, jv (w ^^^ ((72340172838076673 : Int64) * (b.toInt64))), .second, jv ((((w ^^^ ((72340172838076673 : Int64) * (b.toInt64))) &&& (9187201950435737471 : Int64)) + (9187201950435737471 : Int64)) ||| (w ^^^ ((72340172838076673 : Int64) * (b.toInt64)))), .second] [(.long (((((w ^^^ ((72340172838076673 : Int64) * (b.toInt64))) &&& (9187201950435737471 : Int64)) + (9187201950435737471 : Int64)) ||| (w ^^^ ((72340172838076673 : Int64) * (b.toInt64)))) ^^^ (-1 : Int64)))])) rfl (hb hby own_d3_28) _ k) ?_
  refine own_go (mkF m 32 #[jv w, .second, iv b, jv (w ^^^ ((72340172838076673 : Int64) * (b.toInt64))), .second, jv ((((w ^^^ ((72340172838076673 : Int64) * (b.toInt64))) &&& (9187201950435737471 : Int64)) + (9187201950435737471 : Int64)) ||| (w ^^^ ((72340172838076673 : Int64) * (b.toInt64)))), .second] [(.long ((((((w ^^^ ((72340172838076673 : Int64) * (b.toInt64))) &&& (9187201950435737471 : Int64)) + (9187201950435737471 : Int64)) ||| (w ^^^ ((72340172838076673 : Int64) * (b.toInt64)))) ^^^ (-1 : Int64)) &&& (-9187201950435737472 : Int64)))]) (fun t k => XS.land X0.here hx rfl (hb hby own_d3_31) rfl k) ?_
  refine own_retJ X0 hx hlk hret (hb hby own_d3_32) ?_ (by decide) (by decide)
  exact ⟨congrArg (fun z => some (Value.long z)) ((show (own_equal w b) = ((((((w ^^^ ((72340172838076673 : Int64) * (b.toInt64))) &&& (9187201950435737471 : Int64)) + (9187201950435737471 : Int64)) ||| (w ^^^ ((72340172838076673 : Int64) * (b.toInt64)))) ^^^ (-1 : Int64)) &&& (-9187201950435737472 : Int64)) from rfl).trans (by rfl : ((((((w ^^^ ((72340172838076673 : Int64) * (b.toInt64))) &&& (9187201950435737471 : Int64)) + (9187201950435737471 : Int64)) ||| (w ^^^ ((72340172838076673 : Int64) * (b.toInt64)))) ^^^ (-1 : Int64)) &&& (-9187201950435737472 : Int64)) = ((((((w ^^^ ((72340172838076673 : Int64) * (b.toInt64))) &&& (9187201950435737471 : Int64)) + (9187201950435737471 : Int64)) ||| (w ^^^ ((72340172838076673 : Int64) * (b.toInt64)))) ^^^ (-1 : Int64)) &&& (-9187201950435737472 : Int64)))).symm, e0, rfl⟩


theorem own_n_xor (x y : Int64) : (x ^^^ y).toBitVec.toNat = x.toBitVec.toNat ^^^ y.toBitVec.toNat := by simp [BitVec.toNat_xor]
theorem own_n_and (x y : Int64) : (x &&& y).toBitVec.toNat = x.toBitVec.toNat &&& y.toBitVec.toNat := by simp [BitVec.toNat_and]
theorem own_n_or (x y : Int64) : (x ||| y).toBitVec.toNat = x.toBitVec.toNat ||| y.toBitVec.toNat := by simp [BitVec.toNat_or]
theorem own_n_add (x y : Int64) : (x + y).toBitVec.toNat = (x.toBitVec.toNat + y.toBitVec.toNat) % 2 ^ 64 := by simp [BitVec.toNat_add]
theorem own_n_mul (x y : Int64) : (x * y).toBitVec.toNat = (x.toBitVec.toNat * y.toBitVec.toNat) % 2 ^ 64 := by simp [BitVec.toNat_mul]
theorem own_n_b (b : Int32) (h : b.toBitVec.toNat < 256) : b.toInt64.toBitVec.toNat = b.toBitVec.toNat := by
  have : b.toInt64.toBitVec = b.toBitVec.signExtend 64 := rfl
  rw [this, BitVec.signExtend_eq_setWidth_of_msb_false (by rw [BitVec.msb_eq_decide]; simp; omega)]
  simp; omega
theorem own_eqTo (w : Int64) (b : Int32) (h : b.toBitVec.toNat < 256) : (own_equal w b).toBitVec.toNat = (((((w.toBitVec.toNat ^^^ (72340172838076673 * b.toBitVec.toNat)) &&& 9187201950435737471) + 9187201950435737471) ||| (w.toBitVec.toNat ^^^ (72340172838076673 * b.toBitVec.toNat))) ^^^ 18446744073709551615) &&& 9259542123273814144 := by
  unfold own_equal
  have e1 : (72340172838076673 : Int64).toBitVec.toNat = 72340172838076673 := rfl
  have e2 : (9187201950435737471 : Int64).toBitVec.toNat = 9187201950435737471 := rfl
  have e3 : (-1 : Int64).toBitVec.toNat = 18446744073709551615 := rfl
  have e4 : (-9187201950435737472 : Int64).toBitVec.toNat = 9259542123273814144 := rfl
  rw [own_n_and, own_n_xor, own_n_or, own_n_add, own_n_and, own_n_xor, own_n_mul, own_n_b b h, e1, e2, e3, e4]
  rw [Nat.mod_eq_of_lt (a := 72340172838076673 * b.toBitVec.toNat) (by omega)]
  have q : (w.toBitVec.toNat ^^^ (72340172838076673 * b.toBitVec.toNat)) &&& 9187201950435737471 ≤ 9187201950435737471 := Nat.and_le_right
  rw [Nat.mod_eq_of_lt (a := _ + _) (by omega)]
theorem own_shr (w : Int64) (n : UInt64) (k : Nat) (hk : k < 64) (hn : n.toNat = k) : (((w.toUInt64 >>> n).toInt64) &&& (255 : Int64)).toBitVec.toNat = w.toBitVec.toNat / 2 ^ k % 256 := by
  have e2 : ((w.toUInt64 >>> n).toInt64).toBitVec.toNat = w.toBitVec.toNat / 2 ^ k := by
    simp only [UInt64.toBitVec_toInt64, UInt64.toBitVec_shiftRight, Int64.toBitVec_toUInt64]
    simp [BitVec.toNat_ushiftRight, Nat.shiftRight_eq_div_pow, hn, Nat.mod_eq_of_lt hk]
  have e255 : (255 : Int64).toBitVec.toNat = 2 ^ 8 - 1 := rfl
  rw [own_n_and, e2, e255, Nat.and_two_pow_sub_one_eq_mod]
theorem own_nat_inj {x y : Int64} (h : x.toBitVec.toNat = y.toBitVec.toNat) : x = y := Int64.toBitVec_inj.mp (BitVec.eq_of_toNat_eq h)
theorem own_cond (w : Int64) (b : Int32) (h : b.toBitVec.toNat < 256) (n : UInt64) (k : Nat) (hk : k < 64) (hn : n.toNat = k) : (((w.toUInt64 >>> n).toInt64) &&& (255 : Int64)) = b.toInt64 ↔ w.toBitVec.toNat / 2 ^ k % 256 = b.toBitVec.toNat := by
  constructor
  · intro q; rw [← own_shr w n k hk hn, q, own_n_b b h]
  · intro q; exact own_nat_inj (by rw [own_shr w n k hk hn, q, own_n_b b h])
theorem own_bit0 (w : Int64) (b : Int32) (h : b.toBitVec.toNat < 256) : (own_bit w (0 : Int32) b).toBitVec.toNat = own_pk (if w.toBitVec.toNat / 2 ^ 0 % 256 = b.toBitVec.toNat then 128 else 0) 0 0 0 0 0 0 0 := by
  unfold own_bit
  by_cases q : w.toBitVec.toNat / 2 ^ 0 % 256 = b.toBitVec.toNat
  · rw [if_pos ((own_cond w b h _ 0 (by decide) (by decide)).mpr q), if_pos q]; decide
  · rw [if_neg (fun z => q ((own_cond w b h _ 0 (by decide) (by decide)).mp z)), if_neg q]; decide
theorem own_bit1 (w : Int64) (b : Int32) (h : b.toBitVec.toNat < 256) : (own_bit w (1 : Int32) b).toBitVec.toNat = own_pk 0 (if w.toBitVec.toNat / 2 ^ 8 % 256 = b.toBitVec.toNat then 128 else 0) 0 0 0 0 0 0 := by
  unfold own_bit
  by_cases q : w.toBitVec.toNat / 2 ^ 8 % 256 = b.toBitVec.toNat
  · rw [if_pos ((own_cond w b h _ 8 (by decide) (by decide)).mpr q), if_pos q]; decide
  · rw [if_neg (fun z => q ((own_cond w b h _ 8 (by decide) (by decide)).mp z)), if_neg q]; decide
theorem own_bit2 (w : Int64) (b : Int32) (h : b.toBitVec.toNat < 256) : (own_bit w (2 : Int32) b).toBitVec.toNat = own_pk 0 0 (if w.toBitVec.toNat / 2 ^ 16 % 256 = b.toBitVec.toNat then 128 else 0) 0 0 0 0 0 := by
  unfold own_bit
  by_cases q : w.toBitVec.toNat / 2 ^ 16 % 256 = b.toBitVec.toNat
  · rw [if_pos ((own_cond w b h _ 16 (by decide) (by decide)).mpr q), if_pos q]; decide
  · rw [if_neg (fun z => q ((own_cond w b h _ 16 (by decide) (by decide)).mp z)), if_neg q]; decide
theorem own_bit3 (w : Int64) (b : Int32) (h : b.toBitVec.toNat < 256) : (own_bit w (3 : Int32) b).toBitVec.toNat = own_pk 0 0 0 (if w.toBitVec.toNat / 2 ^ 24 % 256 = b.toBitVec.toNat then 128 else 0) 0 0 0 0 := by
  unfold own_bit
  by_cases q : w.toBitVec.toNat / 2 ^ 24 % 256 = b.toBitVec.toNat
  · rw [if_pos ((own_cond w b h _ 24 (by decide) (by decide)).mpr q), if_pos q]; decide
  · rw [if_neg (fun z => q ((own_cond w b h _ 24 (by decide) (by decide)).mp z)), if_neg q]; decide
theorem own_bit4 (w : Int64) (b : Int32) (h : b.toBitVec.toNat < 256) : (own_bit w (4 : Int32) b).toBitVec.toNat = own_pk 0 0 0 0 (if w.toBitVec.toNat / 2 ^ 32 % 256 = b.toBitVec.toNat then 128 else 0) 0 0 0 := by
  unfold own_bit
  by_cases q : w.toBitVec.toNat / 2 ^ 32 % 256 = b.toBitVec.toNat
  · rw [if_pos ((own_cond w b h _ 32 (by decide) (by decide)).mpr q), if_pos q]; decide
  · rw [if_neg (fun z => q ((own_cond w b h _ 32 (by decide) (by decide)).mp z)), if_neg q]; decide
theorem own_bit5 (w : Int64) (b : Int32) (h : b.toBitVec.toNat < 256) : (own_bit w (5 : Int32) b).toBitVec.toNat = own_pk 0 0 0 0 0 (if w.toBitVec.toNat / 2 ^ 40 % 256 = b.toBitVec.toNat then 128 else 0) 0 0 := by
  unfold own_bit
  by_cases q : w.toBitVec.toNat / 2 ^ 40 % 256 = b.toBitVec.toNat
  · rw [if_pos ((own_cond w b h _ 40 (by decide) (by decide)).mpr q), if_pos q]; decide
  · rw [if_neg (fun z => q ((own_cond w b h _ 40 (by decide) (by decide)).mp z)), if_neg q]; decide
theorem own_bit6 (w : Int64) (b : Int32) (h : b.toBitVec.toNat < 256) : (own_bit w (6 : Int32) b).toBitVec.toNat = own_pk 0 0 0 0 0 0 (if w.toBitVec.toNat / 2 ^ 48 % 256 = b.toBitVec.toNat then 128 else 0) 0 := by
  unfold own_bit
  by_cases q : w.toBitVec.toNat / 2 ^ 48 % 256 = b.toBitVec.toNat
  · rw [if_pos ((own_cond w b h _ 48 (by decide) (by decide)).mpr q), if_pos q]; decide
  · rw [if_neg (fun z => q ((own_cond w b h _ 48 (by decide) (by decide)).mp z)), if_neg q]; decide
theorem own_bit7 (w : Int64) (b : Int32) (h : b.toBitVec.toNat < 256) : (own_bit w (7 : Int32) b).toBitVec.toNat = own_pk 0 0 0 0 0 0 0 (if w.toBitVec.toNat / 2 ^ 56 % 256 = b.toBitVec.toNat then 128 else 0) := by
  unfold own_bit
  by_cases q : w.toBitVec.toNat / 2 ^ 56 % 256 = b.toBitVec.toNat
  · rw [if_pos ((own_cond w b h _ 56 (by decide) (by decide)).mpr q), if_pos q]; decide
  · rw [if_neg (fun z => q ((own_cond w b h _ 56 (by decide) (by decide)).mp z)), if_neg q]; decide

theorem own_v8 (p : Prop) [Decidable p] : (if p then 128 else 0 : Nat) < 2 ^ 8 := by split <;> decide
theorem own_law (w : Int64) (b : Int32) (h : b.toBitVec.toNat < 256) : own_equal w b = ((((((((own_bit w 0 b) ||| (own_bit w 1 b)) ||| (own_bit w 2 b)) ||| (own_bit w 3 b)) ||| (own_bit w 4 b)) ||| (own_bit w 5 b)) ||| (own_bit w 6 b)) ||| (own_bit w 7 b)) := by
  apply own_nat_inj
  rw [own_eqTo w b h, own_swar _ _ w.toBitVec.isLt h]
  simp only [own_n_or, own_bit0 w b h, own_bit1 w b h, own_bit2 w b h, own_bit3 w b h, own_bit4 w b h, own_bit5 w b h, own_bit6 w b h, own_bit7 w b h]
  have d0 : w.toBitVec.toNat / 2 ^ 0 % 256 = w.toBitVec.toNat % 256 := by rw [Nat.pow_zero, Nat.div_one]
  rw [d0]
  have v0 := own_v8 (w.toBitVec.toNat % 256 = b.toBitVec.toNat)
  have v1 := own_v8 (w.toBitVec.toNat / 2 ^ 8 % 256 = b.toBitVec.toNat)
  have v2 := own_v8 (w.toBitVec.toNat / 2 ^ 16 % 256 = b.toBitVec.toNat)
  have v3 := own_v8 (w.toBitVec.toNat / 2 ^ 24 % 256 = b.toBitVec.toNat)
  have v4 := own_v8 (w.toBitVec.toNat / 2 ^ 32 % 256 = b.toBitVec.toNat)
  have v5 := own_v8 (w.toBitVec.toNat / 2 ^ 40 % 256 = b.toBitVec.toNat)
  have v6 := own_v8 (w.toBitVec.toNat / 2 ^ 48 % 256 = b.toBitVec.toNat)
  have v7 := own_v8 (w.toBitVec.toNat / 2 ^ 56 % 256 = b.toBitVec.toNat)
  have p1 : (2 : Nat) ^ 8 = 256 := rfl
  generalize (if w.toBitVec.toNat % 256 = b.toBitVec.toNat then 128 else 0 : Nat) = a0 at *
  have z : (0 : Nat) < 2 ^ 8 := by decide
  rw [own_pk_or v0 z z v1 z z z z z z z z z z]
  simp only [Nat.or_zero, Nat.zero_or]
  rw [own_pk_or v0 z v1 z z v2 z z z z z z z z]
  simp only [Nat.or_zero, Nat.zero_or]
  rw [own_pk_or v0 z v1 z v2 z z v3 z z z z z z]
  simp only [Nat.or_zero, Nat.zero_or]
  rw [own_pk_or v0 z v1 z v2 z v3 z z v4 z z z z]
  simp only [Nat.or_zero, Nat.zero_or]
  rw [own_pk_or v0 z v1 z v2 z v3 z v4 z z v5 z z]
  simp only [Nat.or_zero, Nat.zero_or]
  rw [own_pk_or v0 z v1 z v2 z v3 z v4 z v5 z z v6]
  simp only [Nat.or_zero, Nat.zero_or]
  rw [own_pk_or v0 z v1 z v2 z v3 z v4 z v5 z v6 z]
  simp only [Nat.or_zero, Nat.zero_or]
theorem own_b255 (x : Int32) : (x &&& (255 : Int32)).toBitVec.toNat < 256 := by
  have e : (x &&& (255 : Int32)).toBitVec.toNat = x.toBitVec.toNat &&& 255 := by simp [BitVec.toNat_and]
  rw [e]; exact Nat.lt_of_le_of_lt Nat.and_le_right (by decide)

theorem own_pn_own_rm0 : plainFor x = true := plainFor_of_name (show plainName "org/formwright/ByteWordsEqualToPinLaw" = true by first | (simp [plainName, overriddenIn]; done) | decide +kernel)
set_option maxRecDepth 65536 in
set_option maxHeartbeats 40000000 in
theorem own_rm0 (l : Launch) (Z : State) (a0 : Array Value) (hw : ∀ d ∈ tables_1, d.before a0 Z = true) (ws : List Jvm.Cond) (h0 : Heap) (x0 : Int64) (x1 x2 : Int32)  :
    own_C l Z x code maxLocals ret ws room_1 #[(.long x0), (.int x1), (.int x2)] h0 (fun v h L => v = some (.int 1) ∧ Fr h0.size L) := by
  refine own_met own_pn_own_rm0 #[jv x0, .second, iv x1, iv x2, .unset, .unset, .unset, .unset, .unset] (fun m => by first | (simp [entryFrame, mkF, argsToLocals, Value.category, maxLocals]; done) | rfl) ?_
  intro p e s m below meth c s₁ hx hby hml hown hret hlk hZ hnm X0 e0
  replace hml : c.maxLocals = 9 := hml
  refine own_go (mkF m 1 #[jv x0, .second, iv x1, iv x2, .unset, .unset, .unset, .unset, .unset] [(.int x1)]) (fun t k => XS.iloadN X0.here hx rfl (hb hby at_0) rfl  k) ?_
  refine own_go (mkF m 4 #[jv x0, .second, iv x1, iv x2, .unset, .unset, .unset, .unset, .unset] [(.int (255 : Int32)), (.int x1)]) (fun t k => XS.sipush X0.here hx rfl (hb hby at_1) k) ?_
  refine own_go (mkF m 5 #[jv x0, .second, iv x1, iv x2, .unset, .unset, .unset, .unset, .unset] [(.int (x1 &&& (255 : Int32)))]) (fun t k => XS.iand X0.here hx rfl (hb hby at_4) rfl k) ?_
  have hbb := own_b255 x1
  generalize (x1 &&& (255 : Int32)) = b at hbb ⊢
  refine own_go (mkF m 7 #[jv x0, .second, iv x1, iv x2, iv b, .unset, .unset, .unset, .unset] []) (fun t k => XS.istore X0.here hx rfl (hb hby at_5) rfl (l' := #[jv x0, .second, iv x1, iv x2, iv b, .unset, .unset, .unset, .unset]) rfl k) ?_
  refine own_go (mkF m 8 #[jv x0, .second, iv x1, iv x2, iv b, .unset, .unset, .unset, .unset] [(.long x0)]) (fun t k => XS.lloadN X0.here hx rfl (hb hby at_7) rfl  k) ?_
  refine own_go (mkF m 10 #[jv x0, .second, iv x1, iv x2, iv b, jv x0, .second, .unset, .unset] []) (fun t k => XS.lstore X0.here hx rfl (hb hby at_8) rfl (l' := #[jv x0, .second, iv x1, iv x2, iv b, jv x0, .second, .unset, .unset]) rfl k) ?_
  refine own_go (mkF m 12 #[jv x0, .second, iv x1, iv x2, iv b, jv x0, .second, .unset, .unset] [(.long x0)]) (fun t k => XS.lload X0.here hx rfl (hb hby at_10) rfl  k) ?_
  refine own_go (mkF m 13 #[jv x0, .second, iv x1, iv x2, iv b, jv x0, .second, .unset, .unset] [(.int (0 : Int32)), (.long x0)]) (fun t k => XS.iconst X0.here hx rfl (hb hby at_12) k) ?_
  refine own_go (mkF m 15 #[jv x0, .second, iv x1, iv x2, iv b, jv x0, .second, .unset, .unset] [(.int b), (.int (0 : Int32)), (.long x0)]) (fun t k => XS.iload X0.here hx rfl (hb hby at_13) rfl  k) ?_
  refine own_go (mkF m 16 #[jv x0, .second, iv x1, iv x2, iv b, jv x0, .second, .unset, .unset] [(.int x2), (.int b), (.int (0 : Int32)), (.long x0)]) (fun t k => XS.iloadN X0.here hx rfl (hb hby at_15) rfl  k) ?_
  refine own_callP X0 hx hZ (y := (⟨"org/formwright/ByteWordsEqualToPinLaw", "put", "(JIII)J"⟩ : MethodName)) (fr := 0) (lo := 0) (r := (.long (own_put x0 (0 : Int32) b x2))) hown (hw _ (List.mem_of_getElem? (i := 0) rfl)) (hw _ (List.mem_of_getElem? (i := 1) rfl)) (hw _ (List.mem_of_getElem? (i := 2) rfl)) (hw _ (List.mem_of_getElem? (i := 3) rfl)) (by decide) e0 [(.long x0), (.int (0 : Int32)), (.int b), (.int x2)] [] (own_rm1 l Z a0 hw [] h0 x0 (0 : Int32) b x2) 0 (by decide) (by decide) (Nat.le_of_eq rfl) (by decide) (by decide) (by rw [hml]; rfl) (lenOf own_pd0 rfl) rfl (hb hby at_16) ?_
  intro T1 X1 e1
  generalize (own_put x0 (0 : Int32) b x2) = wv19
  refine own_go (mkF m 21 #[jv x0, .second, iv x1, iv x2, iv b, jv wv19, .second, .unset, .unset] []) (fun t k => XS.lstore X1.here hx rfl (hb hby at_19) rfl (l' := #[jv x0, .second, iv x1, iv x2, iv b, jv wv19, .second, .unset, .unset]) rfl k) ?_
  refine own_go (mkF m 23 #[jv x0, .second, iv x1, iv x2, iv b, jv wv19, .second, .unset, .unset] [(.long wv19)]) (fun t k => XS.lload X1.here hx rfl (hb hby at_21) rfl  k) ?_
  refine own_go (mkF m 24 #[jv x0, .second, iv x1, iv x2, iv b, jv wv19, .second, .unset, .unset] [(.int (1 : Int32)), (.long wv19)]) (fun t k => XS.iconst X1.here hx rfl (hb hby at_23) k) ?_
  refine own_go (mkF m 26 #[jv x0, .second, iv x1, iv x2, iv b, jv wv19, .second, .unset, .unset] [(.int b), (.int (1 : Int32)), (.long wv19)]) (fun t k => XS.iload X1.here hx rfl (hb hby at_24) rfl  k) ?_
  refine own_go (mkF m 27 #[jv x0, .second, iv x1, iv x2, iv b, jv wv19, .second, .unset, .unset] [(.int x2), (.int b), (.int (1 : Int32)), (.long wv19)]) (fun t k => XS.iloadN X1.here hx rfl (hb hby at_26) rfl  k) ?_
  refine own_callP X1 hx hZ (y := (⟨"org/formwright/ByteWordsEqualToPinLaw", "put", "(JIII)J"⟩ : MethodName)) (fr := 0) (lo := 0) (r := (.long (own_put wv19 (1 : Int32) b x2))) hown (hw _ (List.mem_of_getElem? (i := 0) rfl)) (hw _ (List.mem_of_getElem? (i := 1) rfl)) (hw _ (List.mem_of_getElem? (i := 2) rfl)) (hw _ (List.mem_of_getElem? (i := 3) rfl)) (by decide) e1 [(.long wv19), (.int (1 : Int32)), (.int b), (.int x2)] [] (own_rm1 l Z a0 hw [] h0 wv19 (1 : Int32) b x2) 0 (by decide) (by decide) (Nat.le_of_eq rfl) (by decide) (by decide) (by rw [hml]; rfl) (lenOf own_pd0 rfl) rfl (hb hby at_27) ?_
  intro T2 X2 e2
  generalize (own_put wv19 (1 : Int32) b x2) = wv30
  refine own_go (mkF m 32 #[jv x0, .second, iv x1, iv x2, iv b, jv wv30, .second, .unset, .unset] []) (fun t k => XS.lstore X2.here hx rfl (hb hby at_30) rfl (l' := #[jv x0, .second, iv x1, iv x2, iv b, jv wv30, .second, .unset, .unset]) rfl k) ?_
  refine own_go (mkF m 34 #[jv x0, .second, iv x1, iv x2, iv b, jv wv30, .second, .unset, .unset] [(.long wv30)]) (fun t k => XS.lload X2.here hx rfl (hb hby at_32) rfl  k) ?_
  refine own_go (mkF m 35 #[jv x0, .second, iv x1, iv x2, iv b, jv wv30, .second, .unset, .unset] [(.int (2 : Int32)), (.long wv30)]) (fun t k => XS.iconst X2.here hx rfl (hb hby at_34) k) ?_
  refine own_go (mkF m 37 #[jv x0, .second, iv x1, iv x2, iv b, jv wv30, .second, .unset, .unset] [(.int b), (.int (2 : Int32)), (.long wv30)]) (fun t k => XS.iload X2.here hx rfl (hb hby at_35) rfl  k) ?_
  refine own_go (mkF m 38 #[jv x0, .second, iv x1, iv x2, iv b, jv wv30, .second, .unset, .unset] [(.int x2), (.int b), (.int (2 : Int32)), (.long wv30)]) (fun t k => XS.iloadN X2.here hx rfl (hb hby at_37) rfl  k) ?_
  refine own_callP X2 hx hZ (y := (⟨"org/formwright/ByteWordsEqualToPinLaw", "put", "(JIII)J"⟩ : MethodName)) (fr := 0) (lo := 0) (r := (.long (own_put wv30 (2 : Int32) b x2))) hown (hw _ (List.mem_of_getElem? (i := 0) rfl)) (hw _ (List.mem_of_getElem? (i := 1) rfl)) (hw _ (List.mem_of_getElem? (i := 2) rfl)) (hw _ (List.mem_of_getElem? (i := 3) rfl)) (by decide) e2 [(.long wv30), (.int (2 : Int32)), (.int b), (.int x2)] [] (own_rm1 l Z a0 hw [] h0 wv30 (2 : Int32) b x2) 0 (by decide) (by decide) (Nat.le_of_eq rfl) (by decide) (by decide) (by rw [hml]; rfl) (lenOf own_pd0 rfl) rfl (hb hby at_38) ?_
  intro T3 X3 e3
  generalize (own_put wv30 (2 : Int32) b x2) = wv41
  refine own_go (mkF m 43 #[jv x0, .second, iv x1, iv x2, iv b, jv wv41, .second, .unset, .unset] []) (fun t k => XS.lstore X3.here hx rfl (hb hby at_41) rfl (l' := #[jv x0, .second, iv x1, iv x2, iv b, jv wv41, .second, .unset, .unset]) rfl k) ?_
  refine own_go (mkF m 45 #[jv x0, .second, iv x1, iv x2, iv b, jv wv41, .second, .unset, .unset] [(.long wv41)]) (fun t k => XS.lload X3.here hx rfl (hb hby at_43) rfl  k) ?_
  refine own_go (mkF m 46 #[jv x0, .second, iv x1, iv x2, iv b, jv wv41, .second, .unset, .unset] [(.int (3 : Int32)), (.long wv41)]) (fun t k => XS.iconst X3.here hx rfl (hb hby at_45) k) ?_
  refine own_go (mkF m 48 #[jv x0, .second, iv x1, iv x2, iv b, jv wv41, .second, .unset, .unset] [(.int b), (.int (3 : Int32)), (.long wv41)]) (fun t k => XS.iload X3.here hx rfl (hb hby at_46) rfl  k) ?_
  refine own_go (mkF m 49 #[jv x0, .second, iv x1, iv x2, iv b, jv wv41, .second, .unset, .unset] [(.int x2), (.int b), (.int (3 : Int32)), (.long wv41)]) (fun t k => XS.iloadN X3.here hx rfl (hb hby at_48) rfl  k) ?_
  refine own_callP X3 hx hZ (y := (⟨"org/formwright/ByteWordsEqualToPinLaw", "put", "(JIII)J"⟩ : MethodName)) (fr := 0) (lo := 0) (r := (.long (own_put wv41 (3 : Int32) b x2))) hown (hw _ (List.mem_of_getElem? (i := 0) rfl)) (hw _ (List.mem_of_getElem? (i := 1) rfl)) (hw _ (List.mem_of_getElem? (i := 2) rfl)) (hw _ (List.mem_of_getElem? (i := 3) rfl)) (by decide) e3 [(.long wv41), (.int (3 : Int32)), (.int b), (.int x2)] [] (own_rm1 l Z a0 hw [] h0 wv41 (3 : Int32) b x2) 0 (by decide) (by decide) (Nat.le_of_eq rfl) (by decide) (by decide) (by rw [hml]; rfl) (lenOf own_pd0 rfl) rfl (hb hby at_49) ?_
  intro T4 X4 e4
  generalize (own_put wv41 (3 : Int32) b x2) = wv52
  refine own_go (mkF m 54 #[jv x0, .second, iv x1, iv x2, iv b, jv wv52, .second, .unset, .unset] []) (fun t k => XS.lstore X4.here hx rfl (hb hby at_52) rfl (l' := #[jv x0, .second, iv x1, iv x2, iv b, jv wv52, .second, .unset, .unset]) rfl k) ?_
  refine own_go (mkF m 56 #[jv x0, .second, iv x1, iv x2, iv b, jv wv52, .second, .unset, .unset] [(.long wv52)]) (fun t k => XS.lload X4.here hx rfl (hb hby at_54) rfl  k) ?_
  refine own_go (mkF m 57 #[jv x0, .second, iv x1, iv x2, iv b, jv wv52, .second, .unset, .unset] [(.int (4 : Int32)), (.long wv52)]) (fun t k => XS.iconst X4.here hx rfl (hb hby at_56) k) ?_
  refine own_go (mkF m 59 #[jv x0, .second, iv x1, iv x2, iv b, jv wv52, .second, .unset, .unset] [(.int b), (.int (4 : Int32)), (.long wv52)]) (fun t k => XS.iload X4.here hx rfl (hb hby at_57) rfl  k) ?_
  refine own_go (mkF m 60 #[jv x0, .second, iv x1, iv x2, iv b, jv wv52, .second, .unset, .unset] [(.int x2), (.int b), (.int (4 : Int32)), (.long wv52)]) (fun t k => XS.iloadN X4.here hx rfl (hb hby at_59) rfl  k) ?_
  refine own_callP X4 hx hZ (y := (⟨"org/formwright/ByteWordsEqualToPinLaw", "put", "(JIII)J"⟩ : MethodName)) (fr := 0) (lo := 0) (r := (.long (own_put wv52 (4 : Int32) b x2))) hown (hw _ (List.mem_of_getElem? (i := 0) rfl)) (hw _ (List.mem_of_getElem? (i := 1) rfl)) (hw _ (List.mem_of_getElem? (i := 2) rfl)) (hw _ (List.mem_of_getElem? (i := 3) rfl)) (by decide) e4 [(.long wv52), (.int (4 : Int32)), (.int b), (.int x2)] [] (own_rm1 l Z a0 hw [] h0 wv52 (4 : Int32) b x2) 0 (by decide) (by decide) (Nat.le_of_eq rfl) (by decide) (by decide) (by rw [hml]; rfl) (lenOf own_pd0 rfl) rfl (hb hby at_60) ?_
  intro T5 X5 e5
  generalize (own_put wv52 (4 : Int32) b x2) = wv63
  refine own_go (mkF m 65 #[jv x0, .second, iv x1, iv x2, iv b, jv wv63, .second, .unset, .unset] []) (fun t k => XS.lstore X5.here hx rfl (hb hby at_63) rfl (l' := #[jv x0, .second, iv x1, iv x2, iv b, jv wv63, .second, .unset, .unset]) rfl k) ?_
  refine own_go (mkF m 67 #[jv x0, .second, iv x1, iv x2, iv b, jv wv63, .second, .unset, .unset] [(.long wv63)]) (fun t k => XS.lload X5.here hx rfl (hb hby at_65) rfl  k) ?_
  refine own_go (mkF m 68 #[jv x0, .second, iv x1, iv x2, iv b, jv wv63, .second, .unset, .unset] [(.int (5 : Int32)), (.long wv63)]) (fun t k => XS.iconst X5.here hx rfl (hb hby at_67) k) ?_
  refine own_go (mkF m 70 #[jv x0, .second, iv x1, iv x2, iv b, jv wv63, .second, .unset, .unset] [(.int b), (.int (5 : Int32)), (.long wv63)]) (fun t k => XS.iload X5.here hx rfl (hb hby at_68) rfl  k) ?_
  refine own_go (mkF m 71 #[jv x0, .second, iv x1, iv x2, iv b, jv wv63, .second, .unset, .unset] [(.int x2), (.int b), (.int (5 : Int32)), (.long wv63)]) (fun t k => XS.iloadN X5.here hx rfl (hb hby at_70) rfl  k) ?_
  refine own_callP X5 hx hZ (y := (⟨"org/formwright/ByteWordsEqualToPinLaw", "put", "(JIII)J"⟩ : MethodName)) (fr := 0) (lo := 0) (r := (.long (own_put wv63 (5 : Int32) b x2))) hown (hw _ (List.mem_of_getElem? (i := 0) rfl)) (hw _ (List.mem_of_getElem? (i := 1) rfl)) (hw _ (List.mem_of_getElem? (i := 2) rfl)) (hw _ (List.mem_of_getElem? (i := 3) rfl)) (by decide) e5 [(.long wv63), (.int (5 : Int32)), (.int b), (.int x2)] [] (own_rm1 l Z a0 hw [] h0 wv63 (5 : Int32) b x2) 0 (by decide) (by decide) (Nat.le_of_eq rfl) (by decide) (by decide) (by rw [hml]; rfl) (lenOf own_pd0 rfl) rfl (hb hby at_71) ?_
  intro T6 X6 e6
  generalize (own_put wv63 (5 : Int32) b x2) = wv74
  refine own_go (mkF m 76 #[jv x0, .second, iv x1, iv x2, iv b, jv wv74, .second, .unset, .unset] []) (fun t k => XS.lstore X6.here hx rfl (hb hby at_74) rfl (l' := #[jv x0, .second, iv x1, iv x2, iv b, jv wv74, .second, .unset, .unset]) rfl k) ?_
  refine own_go (mkF m 78 #[jv x0, .second, iv x1, iv x2, iv b, jv wv74, .second, .unset, .unset] [(.long wv74)]) (fun t k => XS.lload X6.here hx rfl (hb hby at_76) rfl  k) ?_
  refine own_go (mkF m 80 #[jv x0, .second, iv x1, iv x2, iv b, jv wv74, .second, .unset, .unset] [(.int (6 : Int32)), (.long wv74)]) (fun t k => XS.bipush X6.here hx rfl (hb hby at_78) k) ?_
  refine own_go (mkF m 82 #[jv x0, .second, iv x1, iv x2, iv b, jv wv74, .second, .unset, .unset] [(.int b), (.int (6 : Int32)), (.long wv74)]) (fun t k => XS.iload X6.here hx rfl (hb hby at_80) rfl  k) ?_
  refine own_go (mkF m 83 #[jv x0, .second, iv x1, iv x2, iv b, jv wv74, .second, .unset, .unset] [(.int x2), (.int b), (.int (6 : Int32)), (.long wv74)]) (fun t k => XS.iloadN X6.here hx rfl (hb hby at_82) rfl  k) ?_
  refine own_callP X6 hx hZ (y := (⟨"org/formwright/ByteWordsEqualToPinLaw", "put", "(JIII)J"⟩ : MethodName)) (fr := 0) (lo := 0) (r := (.long (own_put wv74 (6 : Int32) b x2))) hown (hw _ (List.mem_of_getElem? (i := 0) rfl)) (hw _ (List.mem_of_getElem? (i := 1) rfl)) (hw _ (List.mem_of_getElem? (i := 2) rfl)) (hw _ (List.mem_of_getElem? (i := 3) rfl)) (by decide) e6 [(.long wv74), (.int (6 : Int32)), (.int b), (.int x2)] [] (own_rm1 l Z a0 hw [] h0 wv74 (6 : Int32) b x2) 0 (by decide) (by decide) (Nat.le_of_eq rfl) (by decide) (by decide) (by rw [hml]; rfl) (lenOf own_pd0 rfl) rfl (hb hby at_83) ?_
  intro T7 X7 e7
  generalize (own_put wv74 (6 : Int32) b x2) = wv86
  refine own_go (mkF m 88 #[jv x0, .second, iv x1, iv x2, iv b, jv wv86, .second, .unset, .unset] []) (fun t k => XS.lstore X7.here hx rfl (hb hby at_86) rfl (l' := #[jv x0, .second, iv x1, iv x2, iv b, jv wv86, .second, .unset, .unset]) rfl k) ?_
  refine own_go (mkF m 90 #[jv x0, .second, iv x1, iv x2, iv b, jv wv86, .second, .unset, .unset] [(.long wv86)]) (fun t k => XS.lload X7.here hx rfl (hb hby at_88) rfl  k) ?_
  refine own_go (mkF m 92 #[jv x0, .second, iv x1, iv x2, iv b, jv wv86, .second, .unset, .unset] [(.int (7 : Int32)), (.long wv86)]) (fun t k => XS.bipush X7.here hx rfl (hb hby at_90) k) ?_
  refine own_go (mkF m 94 #[jv x0, .second, iv x1, iv x2, iv b, jv wv86, .second, .unset, .unset] [(.int b), (.int (7 : Int32)), (.long wv86)]) (fun t k => XS.iload X7.here hx rfl (hb hby at_92) rfl  k) ?_
  refine own_go (mkF m 95 #[jv x0, .second, iv x1, iv x2, iv b, jv wv86, .second, .unset, .unset] [(.int x2), (.int b), (.int (7 : Int32)), (.long wv86)]) (fun t k => XS.iloadN X7.here hx rfl (hb hby at_94) rfl  k) ?_
  refine own_callP X7 hx hZ (y := (⟨"org/formwright/ByteWordsEqualToPinLaw", "put", "(JIII)J"⟩ : MethodName)) (fr := 0) (lo := 0) (r := (.long (own_put wv86 (7 : Int32) b x2))) hown (hw _ (List.mem_of_getElem? (i := 0) rfl)) (hw _ (List.mem_of_getElem? (i := 1) rfl)) (hw _ (List.mem_of_getElem? (i := 2) rfl)) (hw _ (List.mem_of_getElem? (i := 3) rfl)) (by decide) e7 [(.long wv86), (.int (7 : Int32)), (.int b), (.int x2)] [] (own_rm1 l Z a0 hw [] h0 wv86 (7 : Int32) b x2) 0 (by decide) (by decide) (Nat.le_of_eq rfl) (by decide) (by decide) (by rw [hml]; rfl) (lenOf own_pd0 rfl) rfl (hb hby at_95) ?_
  intro T8 X8 e8
  generalize (own_put wv86 (7 : Int32) b x2) = wv98
  refine own_go (mkF m 100 #[jv x0, .second, iv x1, iv x2, iv b, jv wv98, .second, .unset, .unset] []) (fun t k => XS.lstore X8.here hx rfl (hb hby at_98) rfl (l' := #[jv x0, .second, iv x1, iv x2, iv b, jv wv98, .second, .unset, .unset]) rfl k) ?_
  refine own_go (mkF m 102 #[jv x0, .second, iv x1, iv x2, iv b, jv wv98, .second, .unset, .unset] [(.long wv98)]) (fun t k => XS.lload X8.here hx rfl (hb hby at_100) rfl  k) ?_
  refine own_go (mkF m 103 #[jv x0, .second, iv x1, iv x2, iv b, jv wv98, .second, .unset, .unset] [(.int (0 : Int32)), (.long wv98)]) (fun t k => XS.iconst X8.here hx rfl (hb hby at_102) k) ?_
  refine own_go (mkF m 105 #[jv x0, .second, iv x1, iv x2, iv b, jv wv98, .second, .unset, .unset] [(.int b), (.int (0 : Int32)), (.long wv98)]) (fun t k => XS.iload X8.here hx rfl (hb hby at_103) rfl  k) ?_
  refine own_callP X8 hx hZ (y := (⟨"org/formwright/ByteWordsEqualToPinLaw", "bit", "(JII)J"⟩ : MethodName)) (fr := 0) (lo := 0) (r := (.long (own_bit wv98 (0 : Int32) b))) hown (hw _ (List.mem_of_getElem? (i := 6) rfl)) (hw _ (List.mem_of_getElem? (i := 7) rfl)) (hw _ (List.mem_of_getElem? (i := 2) rfl)) (hw _ (List.mem_of_getElem? (i := 8) rfl)) (by decide) e8 [(.long wv98), (.int (0 : Int32)), (.int b)] [] (own_rm2 l Z a0 hw [] h0 wv98 (0 : Int32) b) 0 (by decide) (by decide) (Nat.le_of_eq rfl) (by decide) (by decide) (by rw [hml]; rfl) (lenOf own_pd1 rfl) rfl (hb hby at_105) ?_
  intro T9 X9 e9
  refine own_go (mkF m 110 #[jv x0, .second, iv x1, iv x2, iv b, jv wv98, .second, .unset, .unset] [(.long wv98), (.long (own_bit wv98 (0 : Int32) b))]) (fun t k => XS.lload X9.here hx rfl (hb hby at_108) rfl  k) ?_
  refine own_go (mkF m 111 #[jv x0, .second, iv x1, iv x2, iv b, jv wv98, .second, .unset, .unset] [(.int (1 : Int32)), (.long wv98), (.long (own_bit wv98 (0 : Int32) b))]) (fun t k => XS.iconst X9.here hx rfl (hb hby at_110) k) ?_
  refine own_go (mkF m 113 #[jv x0, .second, iv x1, iv x2, iv b, jv wv98, .second, .unset, .unset] [(.int b), (.int (1 : Int32)), (.long wv98), (.long (own_bit wv98 (0 : Int32) b))]) (fun t k => XS.iload X9.here hx rfl (hb hby at_111) rfl  k) ?_
  refine own_callP X9 hx hZ (y := (⟨"org/formwright/ByteWordsEqualToPinLaw", "bit", "(JII)J"⟩ : MethodName)) (fr := 0) (lo := 0) (r := (.long (own_bit wv98 (1 : Int32) b))) hown (hw _ (List.mem_of_getElem? (i := 6) rfl)) (hw _ (List.mem_of_getElem? (i := 7) rfl)) (hw _ (List.mem_of_getElem? (i := 2) rfl)) (hw _ (List.mem_of_getElem? (i := 8) rfl)) (by decide) e9 [(.long wv98), (.int (1 : Int32)), (.int b)] [(.long (own_bit wv98 (0 : Int32) b))] (own_rm2 l Z a0 hw [] h0 wv98 (1 : Int32) b) 2 (by decide) (by decide) (Nat.le_of_eq rfl) (by decide) (by decide) (by rw [hml]; rfl) (lenOf own_pd1 rfl) rfl (hb hby at_113) ?_
  intro T10 X10 e10
  refine own_go (mkF m 117 #[jv x0, .second, iv x1, iv x2, iv b, jv wv98, .second, .unset, .unset] [(.long ((own_bit wv98 (0 : Int32) b) ||| (own_bit wv98 (1 : Int32) b)))]) (fun t k => XS.lor X10.here hx rfl (hb hby at_116) rfl k) ?_
  refine own_go (mkF m 119 #[jv x0, .second, iv x1, iv x2, iv b, jv wv98, .second, .unset, .unset] [(.long wv98), (.long ((own_bit wv98 (0 : Int32) b) ||| (own_bit wv98 (1 : Int32) b)))]) (fun t k => XS.lload X10.here hx rfl (hb hby at_117) rfl  k) ?_
  refine own_go (mkF m 120 #[jv x0, .second, iv x1, iv x2, iv b, jv wv98, .second, .unset, .unset] [(.int (2 : Int32)), (.long wv98), (.long ((own_bit wv98 (0 : Int32) b) ||| (own_bit wv98 (1 : Int32) b)))]) (fun t k => XS.iconst X10.here hx rfl (hb hby at_119) k) ?_
  refine own_go (mkF m 122 #[jv x0, .second, iv x1, iv x2, iv b, jv wv98, .second, .unset, .unset] [(.int b), (.int (2 : Int32)), (.long wv98), (.long ((own_bit wv98 (0 : Int32) b) ||| (own_bit wv98 (1 : Int32) b)))]) (fun t k => XS.iload X10.here hx rfl (hb hby at_120) rfl  k) ?_
  refine own_callP X10 hx hZ (y := (⟨"org/formwright/ByteWordsEqualToPinLaw", "bit", "(JII)J"⟩ : MethodName)) (fr := 0) (lo := 0) (r := (.long (own_bit wv98 (2 : Int32) b))) hown (hw _ (List.mem_of_getElem? (i := 6) rfl)) (hw _ (List.mem_of_getElem? (i := 7) rfl)) (hw _ (List.mem_of_getElem? (i := 2) rfl)) (hw _ (List.mem_of_getElem? (i := 8) rfl)) (by decide) e10 [(.long wv98), (.int (2 : Int32)), (.int b)] [(.long ((own_bit wv98 (0 : Int32) b) ||| (own_bit wv98 (1 : Int32) b)))] (own_rm2 l Z a0 hw [] h0 wv98 (2 : Int32) b) 2 (by decide) (by decide) (Nat.le_of_eq rfl) (by decide) (by decide) (by rw [hml]; rfl) (lenOf own_pd1 rfl) rfl (hb hby at_122) ?_
  intro T11 X11 e11
  refine own_go (mkF m 126 #[jv x0, .second, iv x1, iv x2, iv b, jv wv98, .second, .unset, .unset] [(.long (((own_bit wv98 (0 : Int32) b) ||| (own_bit wv98 (1 : Int32) b)) ||| (own_bit wv98 (2 : Int32) b)))]) (fun t k => XS.lor X11.here hx rfl (hb hby at_125) rfl k) ?_
  refine own_go (mkF m 128 #[jv x0, .second, iv x1, iv x2, iv b, jv wv98, .second, .unset, .unset] [(.long wv98), (.long (((own_bit wv98 (0 : Int32) b) ||| (own_bit wv98 (1 : Int32) b)) ||| (own_bit wv98 (2 : Int32) b)))]) (fun t k => XS.lload X11.here hx rfl (hb hby at_126) rfl  k) ?_
  refine own_go (mkF m 129 #[jv x0, .second, iv x1, iv x2, iv b, jv wv98, .second, .unset, .unset] [(.int (3 : Int32)), (.long wv98), (.long (((own_bit wv98 (0 : Int32) b) ||| (own_bit wv98 (1 : Int32) b)) ||| (own_bit wv98 (2 : Int32) b)))]) (fun t k => XS.iconst X11.here hx rfl (hb hby at_128) k) ?_
  refine own_go (mkF m 131 #[jv x0, .second, iv x1, iv x2, iv b, jv wv98, .second, .unset, .unset] [(.int b), (.int (3 : Int32)), (.long wv98), (.long (((own_bit wv98 (0 : Int32) b) ||| (own_bit wv98 (1 : Int32) b)) ||| (own_bit wv98 (2 : Int32) b)))]) (fun t k => XS.iload X11.here hx rfl (hb hby at_129) rfl  k) ?_
  refine own_callP X11 hx hZ (y := (⟨"org/formwright/ByteWordsEqualToPinLaw", "bit", "(JII)J"⟩ : MethodName)) (fr := 0) (lo := 0) (r := (.long (own_bit wv98 (3 : Int32) b))) hown (hw _ (List.mem_of_getElem? (i := 6) rfl)) (hw _ (List.mem_of_getElem? (i := 7) rfl)) (hw _ (List.mem_of_getElem? (i := 2) rfl)) (hw _ (List.mem_of_getElem? (i := 8) rfl)) (by decide) e11 [(.long wv98), (.int (3 : Int32)), (.int b)] [(.long (((own_bit wv98 (0 : Int32) b) ||| (own_bit wv98 (1 : Int32) b)) ||| (own_bit wv98 (2 : Int32) b)))] (own_rm2 l Z a0 hw [] h0 wv98 (3 : Int32) b) 2 (by decide) (by decide) (Nat.le_of_eq rfl) (by decide) (by decide) (by rw [hml]; rfl) (lenOf own_pd1 rfl) rfl (hb hby at_131) ?_
  intro T12 X12 e12
  refine own_go (mkF m 135 #[jv x0, .second, iv x1, iv x2, iv b, jv wv98, .second, .unset, .unset] [(.long ((((own_bit wv98 (0 : Int32) b) ||| (own_bit wv98 (1 : Int32) b)) ||| (own_bit wv98 (2 : Int32) b)) ||| (own_bit wv98 (3 : Int32) b)))]) (fun t k => XS.lor X12.here hx rfl (hb hby at_134) rfl k) ?_
  refine own_go (mkF m 137 #[jv x0, .second, iv x1, iv x2, iv b, jv wv98, .second, .unset, .unset] [(.long wv98), (.long ((((own_bit wv98 (0 : Int32) b) ||| (own_bit wv98 (1 : Int32) b)) ||| (own_bit wv98 (2 : Int32) b)) ||| (own_bit wv98 (3 : Int32) b)))]) (fun t k => XS.lload X12.here hx rfl (hb hby at_135) rfl  k) ?_
  refine own_go (mkF m 138 #[jv x0, .second, iv x1, iv x2, iv b, jv wv98, .second, .unset, .unset] [(.int (4 : Int32)), (.long wv98), (.long ((((own_bit wv98 (0 : Int32) b) ||| (own_bit wv98 (1 : Int32) b)) ||| (own_bit wv98 (2 : Int32) b)) ||| (own_bit wv98 (3 : Int32) b)))]) (fun t k => XS.iconst X12.here hx rfl (hb hby at_137) k) ?_
  refine own_go (mkF m 140 #[jv x0, .second, iv x1, iv x2, iv b, jv wv98, .second, .unset, .unset] [(.int b), (.int (4 : Int32)), (.long wv98), (.long ((((own_bit wv98 (0 : Int32) b) ||| (own_bit wv98 (1 : Int32) b)) ||| (own_bit wv98 (2 : Int32) b)) ||| (own_bit wv98 (3 : Int32) b)))]) (fun t k => XS.iload X12.here hx rfl (hb hby at_138) rfl  k) ?_
  refine own_callP X12 hx hZ (y := (⟨"org/formwright/ByteWordsEqualToPinLaw", "bit", "(JII)J"⟩ : MethodName)) (fr := 0) (lo := 0) (r := (.long (own_bit wv98 (4 : Int32) b))) hown (hw _ (List.mem_of_getElem? (i := 6) rfl)) (hw _ (List.mem_of_getElem? (i := 7) rfl)) (hw _ (List.mem_of_getElem? (i := 2) rfl)) (hw _ (List.mem_of_getElem? (i := 8) rfl)) (by decide) e12 [(.long wv98), (.int (4 : Int32)), (.int b)] [(.long ((((own_bit wv98 (0 : Int32) b) ||| (own_bit wv98 (1 : Int32) b)) ||| (own_bit wv98 (2 : Int32) b)) ||| (own_bit wv98 (3 : Int32) b)))] (own_rm2 l Z a0 hw [] h0 wv98 (4 : Int32) b) 2 (by decide) (by decide) (Nat.le_of_eq rfl) (by decide) (by decide) (by rw [hml]; rfl) (lenOf own_pd1 rfl) rfl (hb hby at_140) ?_
  intro T13 X13 e13
  refine own_go (mkF m 144 #[jv x0, .second, iv x1, iv x2, iv b, jv wv98, .second, .unset, .unset] [(.long (((((own_bit wv98 (0 : Int32) b) ||| (own_bit wv98 (1 : Int32) b)) ||| (own_bit wv98 (2 : Int32) b)) ||| (own_bit wv98 (3 : Int32) b)) ||| (own_bit wv98 (4 : Int32) b)))]) (fun t k => XS.lor X13.here hx rfl (hb hby at_143) rfl k) ?_
  refine own_go (mkF m 146 #[jv x0, .second, iv x1, iv x2, iv b, jv wv98, .second, .unset, .unset] [(.long wv98), (.long (((((own_bit wv98 (0 : Int32) b) ||| (own_bit wv98 (1 : Int32) b)) ||| (own_bit wv98 (2 : Int32) b)) ||| (own_bit wv98 (3 : Int32) b)) ||| (own_bit wv98 (4 : Int32) b)))]) (fun t k => XS.lload X13.here hx rfl (hb hby at_144) rfl  k) ?_
  refine own_go (mkF m 147 #[jv x0, .second, iv x1, iv x2, iv b, jv wv98, .second, .unset, .unset] [(.int (5 : Int32)), (.long wv98), (.long (((((own_bit wv98 (0 : Int32) b) ||| (own_bit wv98 (1 : Int32) b)) ||| (own_bit wv98 (2 : Int32) b)) ||| (own_bit wv98 (3 : Int32) b)) ||| (own_bit wv98 (4 : Int32) b)))]) (fun t k => XS.iconst X13.here hx rfl (hb hby at_146) k) ?_
  refine own_go (mkF m 149 #[jv x0, .second, iv x1, iv x2, iv b, jv wv98, .second, .unset, .unset] [(.int b), (.int (5 : Int32)), (.long wv98), (.long (((((own_bit wv98 (0 : Int32) b) ||| (own_bit wv98 (1 : Int32) b)) ||| (own_bit wv98 (2 : Int32) b)) ||| (own_bit wv98 (3 : Int32) b)) ||| (own_bit wv98 (4 : Int32) b)))]) (fun t k => XS.iload X13.here hx rfl (hb hby at_147) rfl  k) ?_
  refine own_callP X13 hx hZ (y := (⟨"org/formwright/ByteWordsEqualToPinLaw", "bit", "(JII)J"⟩ : MethodName)) (fr := 0) (lo := 0) (r := (.long (own_bit wv98 (5 : Int32) b))) hown (hw _ (List.mem_of_getElem? (i := 6) rfl)) (hw _ (List.mem_of_getElem? (i := 7) rfl)) (hw _ (List.mem_of_getElem? (i := 2) rfl)) (hw _ (List.mem_of_getElem? (i := 8) rfl)) (by decide) e13 [(.long wv98), (.int (5 : Int32)), (.int b)] [(.long (((((own_bit wv98 (0 : Int32) b) ||| (own_bit wv98 (1 : Int32) b)) ||| (own_bit wv98 (2 : Int32) b)) ||| (own_bit wv98 (3 : Int32) b)) ||| (own_bit wv98 (4 : Int32) b)))] (own_rm2 l Z a0 hw [] h0 wv98 (5 : Int32) b) 2 (by decide) (by decide) (Nat.le_of_eq rfl) (by decide) (by decide) (by rw [hml]; rfl) (lenOf own_pd1 rfl) rfl (hb hby at_149) ?_
  intro T14 X14 e14
  refine own_go (mkF m 153 #[jv x0, .second, iv x1, iv x2, iv b, jv wv98, .second, .unset, .unset] [(.long ((((((own_bit wv98 (0 : Int32) b) ||| (own_bit wv98 (1 : Int32) b)) ||| (own_bit wv98 (2 : Int32) b)) ||| (own_bit wv98 (3 : Int32) b)) ||| (own_bit wv98 (4 : Int32) b)) ||| (own_bit wv98 (5 : Int32) b)))]) (fun t k => XS.lor X14.here hx rfl (hb hby at_152) rfl k) ?_
  refine own_go (mkF m 155 #[jv x0, .second, iv x1, iv x2, iv b, jv wv98, .second, .unset, .unset] [(.long wv98), (.long ((((((own_bit wv98 (0 : Int32) b) ||| (own_bit wv98 (1 : Int32) b)) ||| (own_bit wv98 (2 : Int32) b)) ||| (own_bit wv98 (3 : Int32) b)) ||| (own_bit wv98 (4 : Int32) b)) ||| (own_bit wv98 (5 : Int32) b)))]) (fun t k => XS.lload X14.here hx rfl (hb hby at_153) rfl  k) ?_
  refine own_go (mkF m 157 #[jv x0, .second, iv x1, iv x2, iv b, jv wv98, .second, .unset, .unset] [(.int (6 : Int32)), (.long wv98), (.long ((((((own_bit wv98 (0 : Int32) b) ||| (own_bit wv98 (1 : Int32) b)) ||| (own_bit wv98 (2 : Int32) b)) ||| (own_bit wv98 (3 : Int32) b)) ||| (own_bit wv98 (4 : Int32) b)) ||| (own_bit wv98 (5 : Int32) b)))]) (fun t k => XS.bipush X14.here hx rfl (hb hby at_155) k) ?_
  refine own_go (mkF m 159 #[jv x0, .second, iv x1, iv x2, iv b, jv wv98, .second, .unset, .unset] [(.int b), (.int (6 : Int32)), (.long wv98), (.long ((((((own_bit wv98 (0 : Int32) b) ||| (own_bit wv98 (1 : Int32) b)) ||| (own_bit wv98 (2 : Int32) b)) ||| (own_bit wv98 (3 : Int32) b)) ||| (own_bit wv98 (4 : Int32) b)) ||| (own_bit wv98 (5 : Int32) b)))]) (fun t k => XS.iload X14.here hx rfl (hb hby at_157) rfl  k) ?_
  refine own_callP X14 hx hZ (y := (⟨"org/formwright/ByteWordsEqualToPinLaw", "bit", "(JII)J"⟩ : MethodName)) (fr := 0) (lo := 0) (r := (.long (own_bit wv98 (6 : Int32) b))) hown (hw _ (List.mem_of_getElem? (i := 6) rfl)) (hw _ (List.mem_of_getElem? (i := 7) rfl)) (hw _ (List.mem_of_getElem? (i := 2) rfl)) (hw _ (List.mem_of_getElem? (i := 8) rfl)) (by decide) e14 [(.long wv98), (.int (6 : Int32)), (.int b)] [(.long ((((((own_bit wv98 (0 : Int32) b) ||| (own_bit wv98 (1 : Int32) b)) ||| (own_bit wv98 (2 : Int32) b)) ||| (own_bit wv98 (3 : Int32) b)) ||| (own_bit wv98 (4 : Int32) b)) ||| (own_bit wv98 (5 : Int32) b)))] (own_rm2 l Z a0 hw [] h0 wv98 (6 : Int32) b) 2 (by decide) (by decide) (Nat.le_of_eq rfl) (by decide) (by decide) (by rw [hml]; rfl) (lenOf own_pd1 rfl) rfl (hb hby at_159) ?_
  intro T15 X15 e15
  refine own_go (mkF m 163 #[jv x0, .second, iv x1, iv x2, iv b, jv wv98, .second, .unset, .unset] [(.long (((((((own_bit wv98 (0 : Int32) b) ||| (own_bit wv98 (1 : Int32) b)) ||| (own_bit wv98 (2 : Int32) b)) ||| (own_bit wv98 (3 : Int32) b)) ||| (own_bit wv98 (4 : Int32) b)) ||| (own_bit wv98 (5 : Int32) b)) ||| (own_bit wv98 (6 : Int32) b)))]) (fun t k => XS.lor X15.here hx rfl (hb hby at_162) rfl k) ?_
  refine own_go (mkF m 165 #[jv x0, .second, iv x1, iv x2, iv b, jv wv98, .second, .unset, .unset] [(.long wv98), (.long (((((((own_bit wv98 (0 : Int32) b) ||| (own_bit wv98 (1 : Int32) b)) ||| (own_bit wv98 (2 : Int32) b)) ||| (own_bit wv98 (3 : Int32) b)) ||| (own_bit wv98 (4 : Int32) b)) ||| (own_bit wv98 (5 : Int32) b)) ||| (own_bit wv98 (6 : Int32) b)))]) (fun t k => XS.lload X15.here hx rfl (hb hby at_163) rfl  k) ?_
  refine own_go (mkF m 167 #[jv x0, .second, iv x1, iv x2, iv b, jv wv98, .second, .unset, .unset] [(.int (7 : Int32)), (.long wv98), (.long (((((((own_bit wv98 (0 : Int32) b) ||| (own_bit wv98 (1 : Int32) b)) ||| (own_bit wv98 (2 : Int32) b)) ||| (own_bit wv98 (3 : Int32) b)) ||| (own_bit wv98 (4 : Int32) b)) ||| (own_bit wv98 (5 : Int32) b)) ||| (own_bit wv98 (6 : Int32) b)))]) (fun t k => XS.bipush X15.here hx rfl (hb hby at_165) k) ?_
  refine own_go (mkF m 169 #[jv x0, .second, iv x1, iv x2, iv b, jv wv98, .second, .unset, .unset] [(.int b), (.int (7 : Int32)), (.long wv98), (.long (((((((own_bit wv98 (0 : Int32) b) ||| (own_bit wv98 (1 : Int32) b)) ||| (own_bit wv98 (2 : Int32) b)) ||| (own_bit wv98 (3 : Int32) b)) ||| (own_bit wv98 (4 : Int32) b)) ||| (own_bit wv98 (5 : Int32) b)) ||| (own_bit wv98 (6 : Int32) b)))]) (fun t k => XS.iload X15.here hx rfl (hb hby at_167) rfl  k) ?_
  refine own_callP X15 hx hZ (y := (⟨"org/formwright/ByteWordsEqualToPinLaw", "bit", "(JII)J"⟩ : MethodName)) (fr := 0) (lo := 0) (r := (.long (own_bit wv98 (7 : Int32) b))) hown (hw _ (List.mem_of_getElem? (i := 6) rfl)) (hw _ (List.mem_of_getElem? (i := 7) rfl)) (hw _ (List.mem_of_getElem? (i := 2) rfl)) (hw _ (List.mem_of_getElem? (i := 8) rfl)) (by decide) e15 [(.long wv98), (.int (7 : Int32)), (.int b)] [(.long (((((((own_bit wv98 (0 : Int32) b) ||| (own_bit wv98 (1 : Int32) b)) ||| (own_bit wv98 (2 : Int32) b)) ||| (own_bit wv98 (3 : Int32) b)) ||| (own_bit wv98 (4 : Int32) b)) ||| (own_bit wv98 (5 : Int32) b)) ||| (own_bit wv98 (6 : Int32) b)))] (own_rm2 l Z a0 hw [] h0 wv98 (7 : Int32) b) 2 (by decide) (by decide) (Nat.le_of_eq rfl) (by decide) (by decide) (by rw [hml]; rfl) (lenOf own_pd1 rfl) rfl (hb hby at_169) ?_
  intro T16 X16 e16
  refine own_go (mkF m 173 #[jv x0, .second, iv x1, iv x2, iv b, jv wv98, .second, .unset, .unset] [(.long ((((((((own_bit wv98 (0 : Int32) b) ||| (own_bit wv98 (1 : Int32) b)) ||| (own_bit wv98 (2 : Int32) b)) ||| (own_bit wv98 (3 : Int32) b)) ||| (own_bit wv98 (4 : Int32) b)) ||| (own_bit wv98 (5 : Int32) b)) ||| (own_bit wv98 (6 : Int32) b)) ||| (own_bit wv98 (7 : Int32) b)))]) (fun t k => XS.lor X16.here hx rfl (hb hby at_172) rfl k) ?_
  refine own_go (mkF m 175 #[jv x0, .second, iv x1, iv x2, iv b, jv wv98, .second, jv ((((((((own_bit wv98 (0 : Int32) b) ||| (own_bit wv98 (1 : Int32) b)) ||| (own_bit wv98 (2 : Int32) b)) ||| (own_bit wv98 (3 : Int32) b)) ||| (own_bit wv98 (4 : Int32) b)) ||| (own_bit wv98 (5 : Int32) b)) ||| (own_bit wv98 (6 : Int32) b)) ||| (own_bit wv98 (7 : Int32) b)), .second] []) (fun t k => XS.lstore X16.here hx rfl (hb hby at_173) rfl (l' := #[jv x0, .second, iv x1, iv x2, iv b, jv wv98, .second, jv ((((((((own_bit wv98 (0 : Int32) b) ||| (own_bit wv98 (1 : Int32) b)) ||| (own_bit wv98 (2 : Int32) b)) ||| (own_bit wv98 (3 : Int32) b)) ||| (own_bit wv98 (4 : Int32) b)) ||| (own_bit wv98 (5 : Int32) b)) ||| (own_bit wv98 (6 : Int32) b)) ||| (own_bit wv98 (7 : Int32) b)), .second]) rfl k) ?_
  refine own_go (mkF m 177 #[jv x0, .second, iv x1, iv x2, iv b, jv wv98, .second, jv ((((((((own_bit wv98 (0 : Int32) b) ||| (own_bit wv98 (1 : Int32) b)) ||| (own_bit wv98 (2 : Int32) b)) ||| (own_bit wv98 (3 : Int32) b)) ||| (own_bit wv98 (4 : Int32) b)) ||| (own_bit wv98 (5 : Int32) b)) ||| (own_bit wv98 (6 : Int32) b)) ||| (own_bit wv98 (7 : Int32) b)), .second] [(.long wv98)]) (fun t k => XS.lload X16.here hx rfl (hb hby at_175) rfl  k) ?_
  refine own_go (mkF m 179 #[jv x0, .second, iv x1, iv x2, iv b, jv wv98, .second, jv ((((((((own_bit wv98 (0 : Int32) b) ||| (own_bit wv98 (1 : Int32) b)) ||| (own_bit wv98 (2 : Int32) b)) ||| (own_bit wv98 (3 : Int32) b)) ||| (own_bit wv98 (4 : Int32) b)) ||| (own_bit wv98 (5 : Int32) b)) ||| (own_bit wv98 (6 : Int32) b)) ||| (own_bit wv98 (7 : Int32) b)), .second] [(.int b), (.long wv98)]) (fun t k => XS.iload X16.here hx rfl (hb hby at_177) rfl  k) ?_
  refine own_callP X16 hx hZ (y := (⟨"org/formwright/ByteWords", "equalTo", "(JI)J"⟩ : MethodName)) (fr := 0) (lo := 0) (r := (.long (own_equal wv98 b))) hown (hw _ (List.mem_of_getElem? (i := 10) rfl)) (hw _ (List.mem_of_getElem? (i := 11) rfl)) (hw _ (List.mem_of_getElem? (i := 12) rfl)) (hw _ (List.mem_of_getElem? (i := 13) rfl)) (by decide) e16 [(.long wv98), (.int b)] [] (own_rm3 l Z a0 hw [] h0 wv98 b) 0 (by decide) (by decide) (Nat.le_of_eq rfl) (by decide) (by decide) (by rw [hml]; rfl) (lenOf own_pd2 rfl) rfl (hb hby at_179) ?_
  intro T17 X17 e17
  refine own_go (mkF m 184 #[jv x0, .second, iv x1, iv x2, iv b, jv wv98, .second, jv ((((((((own_bit wv98 (0 : Int32) b) ||| (own_bit wv98 (1 : Int32) b)) ||| (own_bit wv98 (2 : Int32) b)) ||| (own_bit wv98 (3 : Int32) b)) ||| (own_bit wv98 (4 : Int32) b)) ||| (own_bit wv98 (5 : Int32) b)) ||| (own_bit wv98 (6 : Int32) b)) ||| (own_bit wv98 (7 : Int32) b)), .second] [(.long ((((((((own_bit wv98 (0 : Int32) b) ||| (own_bit wv98 (1 : Int32) b)) ||| (own_bit wv98 (2 : Int32) b)) ||| (own_bit wv98 (3 : Int32) b)) ||| (own_bit wv98 (4 : Int32) b)) ||| (own_bit wv98 (5 : Int32) b)) ||| (own_bit wv98 (6 : Int32) b)) ||| (own_bit wv98 (7 : Int32) b))), (.long (own_equal wv98 b))]) (fun t k => XS.lload X17.here hx rfl (hb hby at_182) rfl  k) ?_
  refine own_go (mkF m 185 #[jv x0, .second, iv x1, iv x2, iv b, jv wv98, .second, jv ((((((((own_bit wv98 (0 : Int32) b) ||| (own_bit wv98 (1 : Int32) b)) ||| (own_bit wv98 (2 : Int32) b)) ||| (own_bit wv98 (3 : Int32) b)) ||| (own_bit wv98 (4 : Int32) b)) ||| (own_bit wv98 (5 : Int32) b)) ||| (own_bit wv98 (6 : Int32) b)) ||| (own_bit wv98 (7 : Int32) b)), .second] [(.int (lcmpW (own_equal wv98 b) ((((((((own_bit wv98 (0 : Int32) b) ||| (own_bit wv98 (1 : Int32) b)) ||| (own_bit wv98 (2 : Int32) b)) ||| (own_bit wv98 (3 : Int32) b)) ||| (own_bit wv98 (4 : Int32) b)) ||| (own_bit wv98 (5 : Int32) b)) ||| (own_bit wv98 (6 : Int32) b)) ||| (own_bit wv98 (7 : Int32) b))))]) (fun t k => XS.lcmp X17.here hx rfl (hb hby at_184) rfl k) ?_
  refine own_go (mkF m 188 #[jv x0, .second, iv x1, iv x2, iv b, jv wv98, .second, jv ((((((((own_bit wv98 (0 : Int32) b) ||| (own_bit wv98 (1 : Int32) b)) ||| (own_bit wv98 (2 : Int32) b)) ||| (own_bit wv98 (3 : Int32) b)) ||| (own_bit wv98 (4 : Int32) b)) ||| (own_bit wv98 (5 : Int32) b)) ||| (own_bit wv98 (6 : Int32) b)) ||| (own_bit wv98 (7 : Int32) b)), .second] []) (fun t k => XS.ifNo X17.here hx rfl (hb hby at_185) rfl ((if0 _ _).trans (teq ((lw_eq (own_equal wv98 b) ((((((((own_bit wv98 (0 : Int32) b) ||| (own_bit wv98 (1 : Int32) b)) ||| (own_bit wv98 (2 : Int32) b)) ||| (own_bit wv98 (3 : Int32) b)) ||| (own_bit wv98 (4 : Int32) b)) ||| (own_bit wv98 (5 : Int32) b)) ||| (own_bit wv98 (6 : Int32) b)) ||| (own_bit wv98 (7 : Int32) b))).mpr (own_law _ _ hbb))).2) k) ?_
  refine own_go (mkF m 189 #[jv x0, .second, iv x1, iv x2, iv b, jv wv98, .second, jv ((((((((own_bit wv98 (0 : Int32) b) ||| (own_bit wv98 (1 : Int32) b)) ||| (own_bit wv98 (2 : Int32) b)) ||| (own_bit wv98 (3 : Int32) b)) ||| (own_bit wv98 (4 : Int32) b)) ||| (own_bit wv98 (5 : Int32) b)) ||| (own_bit wv98 (6 : Int32) b)) ||| (own_bit wv98 (7 : Int32) b)), .second] [(.int (1 : Int32))]) (fun t k => XS.iconst X17.here hx rfl (hb hby at_188) k) ?_
  refine own_go (mkF m 193 #[jv x0, .second, iv x1, iv x2, iv b, jv wv98, .second, jv ((((((((own_bit wv98 (0 : Int32) b) ||| (own_bit wv98 (1 : Int32) b)) ||| (own_bit wv98 (2 : Int32) b)) ||| (own_bit wv98 (3 : Int32) b)) ||| (own_bit wv98 (4 : Int32) b)) ||| (own_bit wv98 (5 : Int32) b)) ||| (own_bit wv98 (6 : Int32) b)) ||| (own_bit wv98 (7 : Int32) b)), .second] [(.int (1 : Int32))]) (fun t k => XS.goto X17.here hx rfl (pc0 := 189) (pc' := 193) rfl (hb hby at_189) (by decide) (by decide) k) ?_
  refine own_retZ X17 hx hlk hret (hb hby at_193) ?_ (by decide) (by decide)
  exact ⟨rfl, Fr.nil _⟩

set_option maxRecDepth 65536 in
set_option maxHeartbeats 40000000 in
theorem comes_1 {Post : Tables → Env → Array Value → State → Outcome → State → Prop} (hpost : ∀ tb e args s v u, (limb_1_1.after args s (.returned v) u = true ∧ limb_1_2.after args s (.returned v) u = true ∧ True) → FrameEnd s (.returned v) u (Jvm.fieldLocs frame_1_writes args s ++ Jvm.arrayLocs frame_1_arrays args s ++ Jvm.staticLocs frame_1_statics s) 0 0 → Post tb e args s (.returned v) u) :
    ArmFor flags0 classFile x code maxLocals ret World_1 tables_1 room_1 Calls_1 rest_1 Pre_1 Post := by
  intro l hfl _ _ p e ha hc hk s m args below hf hA hF happ hP
  obtain ⟨hcalls, hrest, hpre⟩ := hP
  obtain ⟨-, -, -, hnamed, -, -, -, hat⟩ := (Spec.applies_iff hf).mp happ
  obtain ⟨hg, hn⟩ := and_e (Cond.before_iff.mp (show (Jvm.Cond.and given_1 narrow_1).before args s = true from hpre))
  obtain ⟨g1, g2⟩ := and_e hg
  obtain ⟨g3, g4⟩ := and_e g2
  obtain ⟨g5, g6⟩ := and_e g4
  obtain ⟨w0, w1, w2, rfl⟩ : ∃ w0 w1 w2 : Value, args = #[w0, w1, w2] := by
    have hs : args.size = 3 := by simpa [Cond.value, given_1] using g1
    obtain ⟨L⟩ := args
    match L, hs with
    | [w0, w1, w2], _ => exact ⟨w0, w1, w2, rfl⟩
  have hw := fun d (hd : d ∈ tables_1) => atoms_spec (ws := Jvm.Cond.code x code maxLocals ret :: tables_1) hat d (List.mem_cons_of_mem _ hd)
  obtain ⟨i0, ei0⟩ := isL_v g3
  obtain rfl : w0 = (.long i0) := Option.some.inj ei0
  obtain ⟨i1, ei1⟩ := is_v g5
  obtain rfl : w1 = (.int i1) := Option.some.inj ei1
  obtain ⟨i2, ei2⟩ := is_v g6
  obtain rfl : w2 = (.int i2) := Option.some.inj ei2
  obtain ⟨n, o, h1, h2, h3, _, L, rfl, ⟨rfl, N⟩, hq⟩ := own_rm0 l s _ hw tables_1 s.heap i0 i1 i2  p e ha hc hk s m _ below hf ((Spec.applies_iff_loose hf).mp happ).1 ⟨rfl, State.Warmed39.refl s, rfl⟩ trivial
  refine ⟨n, _, h1, h2, h3, hpost _ _ _ _ _ _ ⟨Cond.after_iff.mpr rfl, Cond.after_iff.mpr (eq_i res_at (Term.int_eval (1)) rfl), trivial⟩ ⟨hq.1, hq.2.1, (hq.2.2.sift fun y hy => Or.inr (N y hy)).mono (by decide) (by decide)⟩⟩
theorem main_1_1 : Claimed_1_1 := comes_1 fun _ _ _ _ _ _ h hF => ⟨h.1, hF⟩
theorem main_1_2 : Claimed_1_2 := comes_1 fun _ _ _ _ _ _ h hF => ⟨h.2.1, hF⟩
end Jvm.Pilot.@@N@@
namespace Jvm.Pilot.@@N@@
open Jvm Jvm.ClassFile Sem Op Lib Jvm.Free Jvm.Stand Jvm.Pilot.@@N@@.Jvm.D
/-! MADE BY PROGRAM (witnessworld.py) out of the Statement's table words and the real class files: 9 classes; the members and pool entries that the words name. The judged class is class 1, her method 1. -/
namespace start1
open Jvm.ClassFile
def u (s : String) : CpInfo := .utf8 (stringToUtf16 s)
/-- a pool by its gaps: so many unusable entries, then the entry; so many at the end -/
def gap : Nat → List CpInfo → List CpInfo
  | 0, r => r
  | n + 1, r => .unusable :: gap n r
def poolList (es : List (Nat × CpInfo)) (last : Nat) : List CpInfo := es.foldr (fun e r => gap e.1 (e.2 :: r)) (gap last [])
def pool (es : List (Nat × CpInfo)) (last : Nat) : Array CpInfo := ⟨poolList es last⟩
def fileOf (pool : Array CpInfo) (this : Nat) (attrs : Array Attribute := #[]) (ms : Array MethodInfo := #[]) (fl : Nat := 33) (sup : Nat := 0) (ifs : Array Nat := #[]) (fds : Array FieldInfo := #[]) : ClassFile where
  minorVersion := 0
  majorVersion := 65
  constantPool := pool
  accessFlags := fl
  thisClass := this
  superClass := sup
  interfaces := ifs
  fields := fds
  methods := ms
  attributes := attrs
def plain (name : String) (sup : Option ClassId) : Class where
  name := name
  kind := .ordinary
  loader := none
  accessFlags := 33
  super := sup
  interfaces := #[]
  cf := none
  fields := #[]
  methods := #[]
  instanceTypes := #[]
  staticTypes := #[]
  resolved := #[]
  callSites := []
  init := .initialized
  statics := none
  mirror := none

def pool0 : Array CpInfo := pool [(5, u "<init>"), (0, u "()V"), (1, .class_ 10), (1, u "java/lang/Object")] 113

def k0m0 : Method := { name := "<init>", desc := "()V", sig := { parameters := [], returnType := none }, accessFlags := 1, code := none }
/-- java/lang/Object -/
def k0 : Class := { plain "java/lang/Object" none with
  accessFlags := 33
  interfaces := #[]
  cf := some (fileOf pool0 8 #[] #[{ accessFlags := 1, nameIndex := 5, descriptorIndex := 6, attributes := #[] }] 33 0 #[] #[])
  fields := #[]
  methods := #[k0m0]
  instanceTypes := #[]
  staticTypes := #[]
  resolved := Array.replicate 124 none
  statics := none }

def pool1 : Array CpInfo := pool [(2, .class_ 4), (1, u "java/lang/Object"), (0, u "<init>"), (0, u "()V"), (0, .methodref 8 9), (0, .class_ 10), (0, .nameAndType 11 12), (0, u "org/formwright/ByteWordsEqualToPinLaw"), (0, u "put"), (0, u "(JIII)J"), (0, .methodref 8 14), (0, .nameAndType 15 16), (0, u "bit"), (0, u "(JII)J"), (0, .methodref 18 19), (0, .class_ 20), (0, .nameAndType 21 22), (0, u "org/formwright/ByteWords"), (0, u "equalTo"), (0, u "(JI)J"), (0, .long 255), (1, .long 18446744073709551615), (1, .long 128), (3, u "law"), (0, u "(JII)Z")] 3

def k1m0 : Method := { name := "<init>", desc := "()V", sig := { parameters := [], returnType := none }, accessFlags := 2, code := none }
def k1c1 : Code := { maxStack := 6, maxLocals := 9, code := code, exceptionTable := #[], attributes := #[] }
def k1m1 : Method := { name := "law", desc := "(JII)Z", sig := { parameters := [.long, .int, .int], returnType := some .boolean }, accessFlags := 9, code := some k1c1 }
def k1c2 : Code := { maxStack := 6, maxLocals := 6, code := method_3_code, exceptionTable := #[], attributes := #[] }
def k1m2 : Method := { name := "put", desc := "(JIII)J", sig := { parameters := [.long, .int, .int, .int], returnType := some .long }, accessFlags := 10, code := some k1c2 }
def k1c3 : Code := { maxStack := 4, maxLocals := 5, code := method_4_code, exceptionTable := #[], attributes := #[] }
def k1m3 : Method := { name := "bit", desc := "(JII)J", sig := { parameters := [.long, .int, .int], returnType := some .long }, accessFlags := 10, code := some k1c3 }
/-- org/formwright/ByteWordsEqualToPinLaw -/
def k1 : Class := { plain "org/formwright/ByteWordsEqualToPinLaw" (some 0) with
  accessFlags := 49
  interfaces := #[]
  cf := some (fileOf pool1 8 #[] #[{ accessFlags := 2, nameIndex := 5, descriptorIndex := 6, attributes := #[] }, { accessFlags := 9, nameIndex := 31, descriptorIndex := 32, attributes := #[] }, { accessFlags := 10, nameIndex := 11, descriptorIndex := 12, attributes := #[] }, { accessFlags := 10, nameIndex := 15, descriptorIndex := 16, attributes := #[] }] 49 2 #[] #[])
  fields := #[]
  methods := #[k1m0, k1m1, k1m2, k1m3]
  instanceTypes := #[]
  staticTypes := #[]
  resolved := Array.replicate 36 none
  statics := none }

def pool2 : Array CpInfo := pool [(3, .class_ 4), (0, u "org/formwright/ByteWords"), (1, .class_ 8), (1, u "java/lang/Object"), (0, u "<init>"), (0, u "()V"), (2, u "WORDS"), (0, u "Ljava/lang/invoke/VarHandle;"), (6, .long 72340172838076673), (1, .long 9187201950435737471), (1, .long 18446744073709551615), (1, .long 9259542123273814144), (19, u "WIDTH"), (0, u "I"), (2, u "HIGH_BITS"), (0, u "J"), (0, u "LOW_BITS"), (0, u "ONES"), (3, u "equalTo"), (0, u "(JI)J")] 6

def k2m0 : Method := { name := "<init>", desc := "()V", sig := { parameters := [], returnType := none }, accessFlags := 2, code := none }
def k2c1 : Code := { maxStack := 6, maxLocals := 7, code := prog_4_method_3_code, exceptionTable := #[], attributes := #[] }
def k2m1 : Method := { name := "equalTo", desc := "(JI)J", sig := { parameters := [.long, .int], returnType := some .long }, accessFlags := 8, code := some k2c1 }
/-- org/formwright/ByteWords -/
def k2 : Class := { plain "org/formwright/ByteWords" (some 0) with
  accessFlags := 48
  interfaces := #[]
  cf := some (fileOf pool2 3 #[] #[{ accessFlags := 2, nameIndex := 9, descriptorIndex := 10, attributes := #[] }, { accessFlags := 8, nameIndex := 58, descriptorIndex := 59, attributes := #[] }] 48 6 #[] #[{ accessFlags := 24, nameIndex := 47, descriptorIndex := 48, attributes := #[] }, { accessFlags := 24, nameIndex := 51, descriptorIndex := 52, attributes := #[] }, { accessFlags := 26, nameIndex := 53, descriptorIndex := 52, attributes := #[] }, { accessFlags := 26, nameIndex := 54, descriptorIndex := 52, attributes := #[] }, { accessFlags := 26, nameIndex := 13, descriptorIndex := 14, attributes := #[] }])
  fields := #[{ name := "WIDTH", type := .int, accessFlags := 24, slot := 0, constantValue := 0 }, { name := "HIGH_BITS", type := .long, accessFlags := 24, slot := 1, constantValue := 0 }, { name := "LOW_BITS", type := .long, accessFlags := 26, slot := 2, constantValue := 0 }, { name := "ONES", type := .long, accessFlags := 26, slot := 3, constantValue := 0 }, { name := "WORDS", type := (.object "java/lang/invoke/VarHandle"), accessFlags := 26, slot := 4, constantValue := 0 }]
  methods := #[k2m0, k2m1]
  instanceTypes := #[]
  staticTypes := #[.int, .long, .long, .long, (.object "java/lang/invoke/VarHandle")]
  resolved := Array.replicate 66 none
  statics := none }

def pool3 : Array CpInfo := pool [(1, u "java/lang/Cloneable"), (0, .class_ 1), (0, u "java/lang/Object"), (0, .class_ 3)] 3

/-- java/lang/Cloneable -/
def k3 : Class := { plain "java/lang/Cloneable" (some 0) with
  accessFlags := 1537
  interfaces := #[]
  cf := some (fileOf pool3 2 #[] #[] 1537 4 #[] #[])
  fields := #[]
  methods := #[]
  instanceTypes := #[]
  staticTypes := #[]
  resolved := Array.replicate 8 none
  statics := none }

def pool4 : Array CpInfo := pool [(1, u "java/io/Serializable"), (0, .class_ 1), (0, u "java/lang/Object"), (0, .class_ 3)] 3

/-- java/io/Serializable -/
def k4 : Class := { plain "java/io/Serializable" (some 0) with
  accessFlags := 1537
  interfaces := #[]
  cf := some (fileOf pool4 2 #[] #[] 1537 4 #[] #[])
  fields := #[]
  methods := #[]
  instanceTypes := #[]
  staticTypes := #[]
  resolved := Array.replicate 8 none
  statics := none }

/-- the primitive byte -/
def k5 : Class := { plain "byte" none with kind := .primitive 'B', accessFlags := 0x411 }
/-- [B -/
def k6 : Class := { plain "[B" (some 0) with kind := .array 5 .byte, interfaces := #[3, 4], accessFlags := 1041 }

/-- the primitive int -/
def k7 : Class := { plain "int" none with kind := .primitive 'I', accessFlags := 0x411 }
/-- [I -/
def k8 : Class := { plain "[I" (some 0) with kind := .array 7 .int, interfaces := #[3, 4], accessFlags := 1041 }

def heap : Heap := #[]
def classes : Array Class := #[k0, k1, k2, k3, k4, k5, k6, k7, k8]
def interned : List (Array UInt16 × Addr) := []
def slotsUsed : Nat := 0
def theMethod : MethodId := ⟨1, 1⟩
def args0 : Array Value := #[.long 5, .int 7, .int 3]
def aboutOver (below : List Frame) : State where
  vm := { classes := classes, interned := interned.toArray }
  heap := heap
  slotsUsed := slotsUsed
  threads := #[{ frames := .invoking theMethod args0 :: below }]
def below0 : List Frame := [.native { method := ⟨0, 0⟩, args := #[] }]
def about1 : State := aboutOver below0
def p0 : Program := .bare "" "" ""
def e0 : Env := launch0.env 0 0 0
theorem w_frames : about1.frames = Frame.invoking theMethod args0 :: below0 := rfl
set_option maxRecDepth 65536 in
theorem w_args : argsFit about1.vm theMethod args0 = true := by decide +kernel
set_option maxRecDepth 65536 in
theorem w_heap : heapFits about1 = true := by decide +kernel
set_option maxRecDepth 65536 in
theorem w_runnable : about1.curStatus? = some .runnable := by decide +kernel
set_option maxRecDepth 65536 in
theorem w_alone : about1.alone = true := by decide +kernel
set_option maxRecDepth 65536 in
theorem w_named : about1.methodNamed? x = some theMethod := by decide +kernel
set_option maxRecDepth 65536 in
theorem w_hears : about1.hears theMethod below0 = true := by decide +kernel
set_option maxRecDepth 65536 in
theorem w_ripe : about1.ripe theMethod args0 below0 = true := by decide +kernel
theorem w_running : about1.status = .running := rfl
set_option maxRecDepth 65536 in
theorem w_room : about1.hasRoom e0.platform room_1 = true :=
  launch0.hasRoom_least _ room_1 (by decide +kernel) (by decide +kernel) (by decide +kernel) (by decide +kernel) (by decide +kernel) (by decide +kernel)
theorem allAtoms_all (ts : List Jvm.Cond) (a : Array Jvm.Value) (st : Jvm.State) : (allAtoms ts).before a st = ts.all (fun c => c.before a st) := by
  induction ts with
  | nil => rfl
  | cons c t ih =>
    show (Jvm.Cond.and c (allAtoms t)).before a st = _
    rw [Jvm.Cond.before_and, ih, List.all_cons]
def words1 : List Jvm.Cond := Jvm.Cond.code x code maxLocals ret :: tables_1
/-- a 'code' word, met by the world's own term for the bytes: nothing is compared byte by byte -/
theorem code_word {y : MethodName} {bytes : ByteArray} {mx : Nat} {rt : Option FieldType} {a : Array Value} {s : State} {m : MethodId} {meth : Method} {c : Code} (h1 : s.methodNamed? y = some m) (h2 : s.vm.method? m = some meth) (h3 : meth.code = some c) (h4 : c.code = bytes)
    (h5 : (c.maxLocals == mx && c.exceptionTable.isEmpty && decide (c.maxStack ≤ mostOperands) && decide (meth.sig.returnType = rt) && !meth.locks && decide (parseMethodDescriptor y.desc = some meth.sig)) = true) : (Jvm.Cond.code y bytes mx rt).before a s = true := by
  simp only [Bool.and_eq_true, beq_iff_eq, Bool.not_eq_true', decide_eq_true_eq] at h5
  obtain ⟨⟨⟨⟨⟨g1, g2⟩, g3⟩, g4⟩, g5⟩, g6⟩ := h5
  simp [Cond.before, Cond.holds, Cond.value, h1, h2, h3, h4, g1, g2, g3, g4, g5, g6]
def isCode : Jvm.Cond → Bool
  | .code _ _ _ _ => true
  | _ => false
theorem all_split {L : List Jvm.Cond} {P : Jvm.Cond → Bool} (h1 : L.all (fun c => isCode c || P c) = true) (h2 : ∀ c ∈ L.filter isCode, P c = true) : L.all P = true := by
  refine List.all_eq_true.mpr fun c hc => ?_
  have h := List.all_eq_true.mp h1 c hc
  rcases Bool.eq_false_or_eq_true (isCode c) with hi | hi
  · exact h2 c (List.mem_filter.mpr ⟨hc, hi⟩)
  · simpa [hi] using h
set_option maxRecDepth 65536 in
theorem w_c0 : (Jvm.Cond.code x code maxLocals ret).before args0 about1 = true := code_word (m := ⟨1, 1⟩) (meth := k1m1) (c := k1c1) (by decide +kernel) rfl rfl rfl (by decide +kernel)
set_option maxRecDepth 65536 in
theorem w_c1 : (Jvm.Cond.code ({ cls := "org/formwright/ByteWordsEqualToPinLaw", name := "put", desc := "(JIII)J" } : Jvm.MethodName) method_3_code (6 : Nat) (Option.some Jvm.ClassFile.FieldType.long)).before args0 about1 = true := code_word (m := ⟨1, 2⟩) (meth := k1m2) (c := k1c2) (by decide +kernel) rfl rfl rfl (by decide +kernel)
set_option maxRecDepth 65536 in
theorem w_c2 : (Jvm.Cond.code ({ cls := "org/formwright/ByteWordsEqualToPinLaw", name := "bit", desc := "(JII)J" } : Jvm.MethodName) method_4_code (5 : Nat) (Option.some Jvm.ClassFile.FieldType.long)).before args0 about1 = true := code_word (m := ⟨1, 3⟩) (meth := k1m3) (c := k1c3) (by decide +kernel) rfl rfl rfl (by decide +kernel)
set_option maxRecDepth 65536 in
theorem w_c3 : (Jvm.Cond.code ({ cls := "org/formwright/ByteWords", name := "equalTo", desc := "(JI)J" } : Jvm.MethodName) prog_4_method_3_code (7 : Nat) (Option.some Jvm.ClassFile.FieldType.long)).before args0 about1 = true := code_word (m := ⟨2, 1⟩) (meth := k2m1) (c := k2c1) (by decide +kernel) rfl rfl rfl (by decide +kernel)
def codes1 : List Jvm.Cond := [Jvm.Cond.code x code maxLocals ret, Jvm.Cond.code ({ cls := "org/formwright/ByteWordsEqualToPinLaw", name := "put", desc := "(JIII)J" } : Jvm.MethodName) method_3_code (6 : Nat) (Option.some Jvm.ClassFile.FieldType.long), Jvm.Cond.code ({ cls := "org/formwright/ByteWordsEqualToPinLaw", name := "bit", desc := "(JII)J" } : Jvm.MethodName) method_4_code (5 : Nat) (Option.some Jvm.ClassFile.FieldType.long), Jvm.Cond.code ({ cls := "org/formwright/ByteWords", name := "equalTo", desc := "(JI)J" } : Jvm.MethodName) prog_4_method_3_code (7 : Nat) (Option.some Jvm.ClassFile.FieldType.long)]
set_option maxRecDepth 65536 in
theorem codes_eq : words1.filter isCode = codes1 := rfl
theorem w_codes : ∀ c ∈ words1.filter isCode, c.before args0 about1 = true := by
  rw [codes_eq]
  intro c hc
  simp only [codes1, List.mem_cons, List.not_mem_nil, or_false] at hc
  rcases hc with rfl | rfl | rfl | rfl
  · exact w_c0
  · exact w_c1
  · exact w_c2
  · exact w_c3
set_option maxRecDepth 65536 in
theorem w_t1 : words1.all (fun c => isCode c || c.before args0 about1) = true := by decide +kernel
theorem w_tables : (allAtoms (Jvm.Cond.code x code maxLocals ret :: tables_1)).before args0 about1 = true := by
  rw [allAtoms_all]
  show words1.all (fun c => c.before args0 about1) = true
  refine all_split ?_ w_codes
  rw [w_t1]
set_option maxRecDepth 65536 in
theorem w_case : (Jvm.Cond.and given_1 narrow_1).before args0 about1 = true := by decide +kernel
theorem w_applies : (headSpec (Jvm.Cond.code x code maxLocals ret :: tables_1) room_1).applies x e0.platform about1 = true :=
  (Spec.applies_iff w_frames).mpr ⟨w_running, w_runnable, w_alone, w_named, w_hears, w_ripe, w_room, w_tables⟩
theorem atStart : AtStart classFile x code maxLocals ret World_1 tables_1 room_1 Calls_1 rest_1 Pre_1 launch0 p0 e0 about1 theMethod args0 below0 :=
  ⟨lists_1, trivial, launch0.admits_env _ _ _, launch0.least_env, fairChoices_fair.cas, fairChoices_fair.clock, w_frames, w_args, w_heap, w_applies, trivial, trivial, w_case⟩
end start1
theorem witness_1 : WitnessClaimed_1 := ⟨start1.p0, start1.e0, start1.about1, start1.theMethod, start1.args0, start1.below0, start1.atStart⟩
end Jvm.Pilot.@@N@@
